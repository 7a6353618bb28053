import JvmDerived
import JvmDerived.Pilot.@@N@@Statement
import JvmDerived.Pilot.@@N@@Code
set_option linter.unusedVariables false
set_option linter.unusedSimpArgs false
namespace Jvm.RoadKit
open Sem ClassFile Op Lib Jvm.Stand Jvm.Free Jvm.LawKit
section New
variable {p : Program} {l : Launch} {e : Env} {R : Room} {s : State} {m : MethodId} {args : Array Value} {below : List Frame} {meth : Method} {c : Code} {T : State} {locs : List Loc} {cells slots : Nat}
theorem retI (X : Stand p l e R s m args below meth c T locs cells slots) (hx : p.tables.exec = Jvm.exec) {pc : Nat} {Ls : Array Slot} {z : Int32} {rest : List Value} (hret : meth.sig.returnType = some .int) (hd : decode c.code pc = .ok (.ireturn, 1)) {fs : List Frame}
    (hl : ∀ (f : JFrame) (acts : List Action), f.method = m → f.locked = none → f.entered = [] → (doReturn e (T.setTop f) acts (some (.int z))).1 = T.setFrames fs) : Steps p.tables e below (T.setTop (mkF m pc Ls (.int z :: rest))) (T.setFrames fs) := by
  have hm' : T.vm.method? m = some meth := X.method'
  have hn : narrow .int (.int z) = .int z := rfl
  show Steps p.tables e below (T.setTop { method := m, pc := pc, locals := Ls, stack := _ :: rest, locked := none }) _
  jvm_step X.here [X.here.top, hx, hd, hm', hret, hn]
  first | (intro acts; rw [hl _ acts rfl rfl rfl]) | rw [hl _ _ rfl rfl rfl]
  exact Steps.refl _
end New
end Jvm.RoadKit
@@BLOCK:NumsL.lean.txt@@
namespace Jvm.Pilot.@@N@@
open Jvm Jvm.ClassFile Sem Op Lib Jvm.Free Jvm.Stand Jvm.LawKit Jvm.RoadKit Bundle Jvm.Pilot.@@N@@.Jvm.D
theorem own_eqv {args : Array Value} {s : State} {a b : Term} {x v : Value} (hb : b.eval args s none [] s = some v) (h : (Jvm.Cond.eq a b).value args s none s [] = some true) (hv : (∃ k, v = .int k) ∨ v = .null ∨ ∃ r, v = .ref r) : a.eval args s none [] s = some v := by
  obtain ⟨x, y, h1, h2, -, -⟩ := cmp_v (Or.inl h)
  cases hb.symm.trans h2
  rw [h1]
  rcases hv with ⟨k, rfl⟩ | rfl | ⟨r, rfl⟩ <;> cases x <;> simp [Cond.value, h1, hb] at h ⊢ <;> exact h
theorem own_fld {args : Array Value} {s : State} {t u : Term} {C n d : String} {b : Addr} {v : Value} (ev : t.eval args s none [] s = some (.ref b)) (hb : u.eval args s none [] s = some v) (hv : (∃ k, v = .int k) ∨ v = .null ∨ ∃ r, v = .ref r) (h : (Jvm.Cond.eq (.field t C n d) u).value args s none s [] = some true) : Fld s s.heap b C n d v := by
  have e := own_eqv (x := v) hb h hv
  rw [fld_at ev] at e
  exact Fld.start e
theorem own_uniq {Z : State} {h : Heap} {a : Addr} {C n d : String} {v w : Value} (F : Fld Z h a C n d v) (G : Fld Z h a C n d w) : v = w := by
  obtain ⟨c1, cf1, k1, i1, f1, a1, a2, -, -, -, -, a7⟩ := F
  obtain ⟨c2, cf2, k2, i2, f2, b1, b2, -, -, -, -, b7⟩ := G
  cases a1.symm.trans b1
  cases a2.symm.trans b2
  exact Option.some.inj (a7.symm.trans b7)
theorem own_apart {Z : State} {h : Heap} {a b : Addr} {C n d : String} {v w : Value} (F : Fld Z h a C n d v) (G : Fld Z h b C n d w) (q : v ≠ w) : a ≠ b := fun e => q (own_uniq F (e ▸ G))

theorem own_ite_ref {c : Prop} [Decidable c] {a b : Value} (ha : a.isRef = true) (hb : b.isRef = true) : (if c then a else b).isRef = true := by split <;> assumption
theorem own_sta_keep {Z : State} {h h' : Heap} {C n d : String} {v : Value} (S : Sta Z h C n d v) (K : Keep h h' []) : Sta Z h' C n d v := by
  obtain ⟨cf, i, k, f, st, cell, h1, h2, h3, h4, h5, r⟩ := S
  exact ⟨cf, i, k, f, st, cell, h1, h2, h3, h4, K.2.1 _ _ h5 List.not_mem_nil, r⟩
theorem own_len {args : Array Value} {s : State} {t : Term} {a : Addr} {c : Cell} {ty : FieldType} {k : Int32} (ev : t.eval args s none [] s = some (.ref a)) (A : Arr s s.heap a c ty) (h : (Jvm.Cond.eq (.length t) (.int k)).value args s none s [] = some true) : c.slots.size < 2 ^ 31 ∧ c.slots.size.toInt32 = k := by
  have e := own_eqv (x := .int k) (Term.int_eval k) h (Or.inl ⟨_, rfl⟩)
  have ha := A.fin (Vm.Alike.refl _)
  by_cases hl : c.slots.size < 2 ^ 31
  · rw [len_f ev ha hl] at e
    exact ⟨hl, by injection e with e; injection e⟩
  · simp [Term.eval, ev, ha, hl] at e
theorem own_or15 (p : Int32) (h : 0 ≤ p.toInt ∧ p.toInt < 15) : p = (0 : Int32) ∨ p = (1 : Int32) ∨ p = (2 : Int32) ∨ p = (3 : Int32) ∨ p = (4 : Int32) ∨ p = (5 : Int32) ∨ p = (6 : Int32) ∨ p = (7 : Int32) ∨ p = (8 : Int32) ∨ p = (9 : Int32) ∨ p = (10 : Int32) ∨ p = (11 : Int32) ∨ p = (12 : Int32) ∨ p = (13 : Int32) ∨ p = (14 : Int32) := by
  have e : ∀ q : Int32, p.toInt = q.toInt → p = q := fun q h => Int32.toInt_inj.mp h
  have c : p.toInt = 0 ∨ p.toInt = 1 ∨ p.toInt = 2 ∨ p.toInt = 3 ∨ p.toInt = 4 ∨ p.toInt = 5 ∨ p.toInt = 6 ∨ p.toInt = 7 ∨ p.toInt = 8 ∨ p.toInt = 9 ∨ p.toInt = 10 ∨ p.toInt = 11 ∨ p.toInt = 12 ∨ p.toInt = 13 ∨ p.toInt = 14 := by omega
  rcases c with c | c | c | c | c | c | c | c | c | c | c | c | c | c | c
  · exact Or.inl (e 0 c)
  · exact Or.inr (Or.inl (e 1 c))
  · exact Or.inr (Or.inr (Or.inl (e 2 c)))
  · exact Or.inr (Or.inr (Or.inr (Or.inl (e 3 c))))
  · exact Or.inr (Or.inr (Or.inr (Or.inr (Or.inl (e 4 c)))))
  · exact Or.inr (Or.inr (Or.inr (Or.inr (Or.inr (Or.inl (e 5 c))))))
  · exact Or.inr (Or.inr (Or.inr (Or.inr (Or.inr (Or.inr (Or.inl (e 6 c)))))))
  · exact Or.inr (Or.inr (Or.inr (Or.inr (Or.inr (Or.inr (Or.inr (Or.inl (e 7 c))))))))
  · exact Or.inr (Or.inr (Or.inr (Or.inr (Or.inr (Or.inr (Or.inr (Or.inr (Or.inl (e 8 c)))))))))
  · exact Or.inr (Or.inr (Or.inr (Or.inr (Or.inr (Or.inr (Or.inr (Or.inr (Or.inr (Or.inl (e 9 c))))))))))
  · exact Or.inr (Or.inr (Or.inr (Or.inr (Or.inr (Or.inr (Or.inr (Or.inr (Or.inr (Or.inr (Or.inl (e 10 c)))))))))))
  · exact Or.inr (Or.inr (Or.inr (Or.inr (Or.inr (Or.inr (Or.inr (Or.inr (Or.inr (Or.inr (Or.inr (Or.inl (e 11 c))))))))))))
  · exact Or.inr (Or.inr (Or.inr (Or.inr (Or.inr (Or.inr (Or.inr (Or.inr (Or.inr (Or.inr (Or.inr (Or.inr (Or.inl (e 12 c)))))))))))))
  · exact Or.inr (Or.inr (Or.inr (Or.inr (Or.inr (Or.inr (Or.inr (Or.inr (Or.inr (Or.inr (Or.inr (Or.inr (Or.inr (Or.inl (e 13 c))))))))))))))
  · exact Or.inr (Or.inr (Or.inr (Or.inr (Or.inr (Or.inr (Or.inr (Or.inr (Or.inr (Or.inr (Or.inr (Or.inr (Or.inr (Or.inr ((e 14 c)))))))))))))))
theorem own_mod15 (p : Int32) : 0 ≤ ((p &&& (2147483647 : Int32)) % (15 : Int32)).toInt ∧ ((p &&& (2147483647 : Int32)) % (15 : Int32)).toInt < 15 := by
  have e1 : (p &&& (2147483647 : Int32)).toInt = p.toInt % 2 ^ 31 := Jvm.Kit.i32_mask p (2147483647 : Int32) (k := 31) (by decide) (by decide)
  have e2 := Jvm.Kit.i32_rem_nonneg (x := (p &&& (2147483647 : Int32))) (y := (15 : Int32)) (by omega)
  rw [e2, show (15 : Int32).toInt = 15 from rfl]
  omega
theorem d1_0 : decode method_3_code 0 = .ok (.iload_n 0, 1) := by decide +kernel
theorem d1_1 : decode method_3_code 1 = .ok (.ifCond .ne 6, 3) := by decide +kernel
theorem d1_4 : decode method_3_code 4 = .ok (.bipush 16, 2) := by decide +kernel
theorem d1_6 : decode method_3_code 6 = .ok (.ireturn, 1) := by decide +kernel
theorem d1_7 : decode method_3_code 7 = .ok (.iload_n 0, 1) := by decide +kernel
theorem d1_8 : decode method_3_code 8 = .ok (.iconst 1, 1) := by decide +kernel
theorem d1_9 : decode method_3_code 9 = .ok (.if_icmp .ne 6, 3) := by decide +kernel
theorem d1_12 : decode method_3_code 12 = .ok (.bipush 21, 2) := by decide +kernel
theorem d1_14 : decode method_3_code 14 = .ok (.ireturn, 1) := by decide +kernel
theorem d1_15 : decode method_3_code 15 = .ok (.iload_n 0, 1) := by decide +kernel
theorem d1_16 : decode method_3_code 16 = .ok (.iconst 2, 1) := by decide +kernel
theorem d1_17 : decode method_3_code 17 = .ok (.if_icmp .ne 6, 3) := by decide +kernel
theorem d1_20 : decode method_3_code 20 = .ok (.bipush 23, 2) := by decide +kernel
theorem d1_22 : decode method_3_code 22 = .ok (.ireturn, 1) := by decide +kernel
theorem d1_23 : decode method_3_code 23 = .ok (.iload_n 0, 1) := by decide +kernel
theorem d1_24 : decode method_3_code 24 = .ok (.iconst 3, 1) := by decide +kernel
theorem d1_25 : decode method_3_code 25 = .ok (.if_icmp .ne 6, 3) := by decide +kernel
theorem d1_28 : decode method_3_code 28 = .ok (.bipush 20, 2) := by decide +kernel
theorem d1_30 : decode method_3_code 30 = .ok (.ireturn, 1) := by decide +kernel
theorem d1_31 : decode method_3_code 31 = .ok (.iload_n 0, 1) := by decide +kernel
theorem d1_32 : decode method_3_code 32 = .ok (.iconst 4, 1) := by decide +kernel
theorem d1_33 : decode method_3_code 33 = .ok (.if_icmp .ne 6, 3) := by decide +kernel
theorem d1_36 : decode method_3_code 36 = .ok (.bipush 25, 2) := by decide +kernel
theorem d1_38 : decode method_3_code 38 = .ok (.ireturn, 1) := by decide +kernel
theorem d1_39 : decode method_3_code 39 = .ok (.iload_n 0, 1) := by decide +kernel
theorem d1_40 : decode method_3_code 40 = .ok (.iconst 5, 1) := by decide +kernel
theorem d1_41 : decode method_3_code 41 = .ok (.if_icmp .ne 7, 3) := by decide +kernel
theorem d1_44 : decode method_3_code 44 = .ok (.sipush 1043, 3) := by decide +kernel
theorem d1_47 : decode method_3_code 47 = .ok (.ireturn, 1) := by decide +kernel
theorem d1_48 : decode method_3_code 48 = .ok (.iload_n 0, 1) := by decide +kernel
theorem d1_49 : decode method_3_code 49 = .ok (.bipush 6, 2) := by decide +kernel
theorem d1_51 : decode method_3_code 51 = .ok (.if_icmp .ne 7, 3) := by decide +kernel
theorem d1_54 : decode method_3_code 54 = .ok (.sipush 1042, 3) := by decide +kernel
theorem d1_57 : decode method_3_code 57 = .ok (.ireturn, 1) := by decide +kernel
theorem d1_58 : decode method_3_code 58 = .ok (.iload_n 0, 1) := by decide +kernel
theorem d1_59 : decode method_3_code 59 = .ok (.bipush 7, 2) := by decide +kernel
theorem d1_61 : decode method_3_code 61 = .ok (.if_icmp .ne 6, 3) := by decide +kernel
theorem d1_64 : decode method_3_code 64 = .ok (.bipush 19, 2) := by decide +kernel
theorem d1_66 : decode method_3_code 66 = .ok (.ireturn, 1) := by decide +kernel
theorem d1_67 : decode method_3_code 67 = .ok (.iload_n 0, 1) := by decide +kernel
theorem d1_68 : decode method_3_code 68 = .ok (.bipush 8, 2) := by decide +kernel
theorem d1_70 : decode method_3_code 70 = .ok (.if_icmp .ne 7, 3) := by decide +kernel
theorem d1_73 : decode method_3_code 73 = .ok (.sipush 700, 3) := by decide +kernel
theorem d1_76 : decode method_3_code 76 = .ok (.ireturn, 1) := by decide +kernel
theorem d1_77 : decode method_3_code 77 = .ok (.iload_n 0, 1) := by decide +kernel
theorem d1_78 : decode method_3_code 78 = .ok (.bipush 9, 2) := by decide +kernel
theorem d1_80 : decode method_3_code 80 = .ok (.if_icmp .ne 7, 3) := by decide +kernel
theorem d1_83 : decode method_3_code 83 = .ok (.sipush 701, 3) := by decide +kernel
theorem d1_86 : decode method_3_code 86 = .ok (.ireturn, 1) := by decide +kernel
theorem d1_87 : decode method_3_code 87 = .ok (.iload_n 0, 1) := by decide +kernel
theorem d1_88 : decode method_3_code 88 = .ok (.bipush 10, 2) := by decide +kernel
theorem d1_90 : decode method_3_code 90 = .ok (.if_icmp .ne 7, 3) := by decide +kernel
theorem d1_93 : decode method_3_code 93 = .ok (.sipush 1700, 3) := by decide +kernel
theorem d1_96 : decode method_3_code 96 = .ok (.ireturn, 1) := by decide +kernel
theorem d1_97 : decode method_3_code 97 = .ok (.iload_n 0, 1) := by decide +kernel
theorem d1_98 : decode method_3_code 98 = .ok (.bipush 11, 2) := by decide +kernel
theorem d1_100 : decode method_3_code 100 = .ok (.if_icmp .ne 7, 3) := by decide +kernel
theorem d1_103 : decode method_3_code 103 = .ok (.sipush 1082, 3) := by decide +kernel
theorem d1_106 : decode method_3_code 106 = .ok (.ireturn, 1) := by decide +kernel
theorem d1_107 : decode method_3_code 107 = .ok (.iload_n 0, 1) := by decide +kernel
theorem d1_108 : decode method_3_code 108 = .ok (.bipush 12, 2) := by decide +kernel
theorem d1_110 : decode method_3_code 110 = .ok (.if_icmp .ne 7, 3) := by decide +kernel
theorem d1_113 : decode method_3_code 113 = .ok (.sipush 1083, 3) := by decide +kernel
theorem d1_116 : decode method_3_code 116 = .ok (.ireturn, 1) := by decide +kernel
theorem d1_117 : decode method_3_code 117 = .ok (.iload_n 0, 1) := by decide +kernel
theorem d1_118 : decode method_3_code 118 = .ok (.bipush 13, 2) := by decide +kernel
theorem d1_120 : decode method_3_code 120 = .ok (.if_icmp .ne 7, 3) := by decide +kernel
theorem d1_123 : decode method_3_code 123 = .ok (.sipush 1114, 3) := by decide +kernel
theorem d1_126 : decode method_3_code 126 = .ok (.ireturn, 1) := by decide +kernel
theorem d1_127 : decode method_3_code 127 = .ok (.sipush 1184, 3) := by decide +kernel
theorem d1_130 : decode method_3_code 130 = .ok (.ireturn, 1) := by decide +kernel
theorem pn_PgTypeOfOidPinLaw : plainName "com/example/gatedb/gatedb/pgwire/PgTypeOfOidPinLaw" = true := by first | (simp [plainName, overriddenIn]; done) | decide +kernel
def f_oid (p0 : Int32) : Int32 := (if p0 = 0 then (16 : Int32) else (if p0 = (1 : Int32) then (21 : Int32) else (if p0 = (2 : Int32) then (23 : Int32) else (if p0 = (3 : Int32) then (20 : Int32) else (if p0 = (4 : Int32) then (25 : Int32) else (if p0 = (5 : Int32) then (1043 : Int32) else (if p0 = (6 : Int32) then (1042 : Int32) else (if p0 = (7 : Int32) then (19 : Int32) else (if p0 = (8 : Int32) then (700 : Int32) else (if p0 = (9 : Int32) then (701 : Int32) else (if p0 = (10 : Int32) then (1700 : Int32) else (if p0 = (11 : Int32) then (1082 : Int32) else (if p0 = (12 : Int32) then (1083 : Int32) else (if p0 = (13 : Int32) then (1114 : Int32) else (1184 : Int32)))))))))))))))
theorem ef1 (m : MethodId) (x0 : Int32) : entryFrame m #[(.int x0)] 1 = mkF m 0 #[.val (.int x0)] [] := by first | (simp [entryFrame, mkF, argsToLocals, Value.category]; done) | rfl
def Q1 (Z : State) (p0 : Int32) (h0 : Heap) (n0 : Nat) (v : Option Value) (h : Heap) (L : List Loc) : Prop := v = some (.int (f_oid p0)) ∧ Fr n0 L ∧ h = h0
set_option maxRecDepth 65536 in
set_option maxHeartbeats 40000000 in
theorem rm1 (l : Launch) (Z : State) (a0 : Array Value) (hw : ∀ d ∈ tables_1, d.before a0 Z = true) (ws : List Jvm.Cond) (p0 : Int32) (h0 : Heap) (n0 : Nat) (Z0 : n0 ≤ h0.size) :
    MetFree l (⟨"com/example/gatedb/gatedb/pgwire/PgTypeOfOidPinLaw", "oidAt", "(I)I"⟩ : MethodName) (head1 (Jvm.Cond.code (⟨"com/example/gatedb/gatedb/pgwire/PgTypeOfOidPinLaw", "oidAt", "(I)I"⟩ : MethodName) method_3_code 1 (some .int) :: ws) ({ frames := 0, cells := 0, slots := 0, locals := 0 } : Room)) (fun a U => a = #[(.int p0)] ∧ Z.Warmed39 U.vm ∧ U.heap = h0) (fun _ _ _ _ _ => True) (fun _ U o U' => ∃ v L, o = .returned v ∧ Q1 Z p0 h0 n0 v U'.heap L ∧ FrameEnd U o U' L ({ frames := 0, cells := 0, slots := 0, locals := 0 } : Room).cells ({ frames := 0, cells := 0, slots := 0, locals := 0 } : Room).slots) := by
  refine MetFree.of_bodySF (plainFor_of_name pn_PgTypeOfOidPinLaw) hisR ?_
  intro p e s m args below meth c s₁ Bd hml0 hP hK
  obtain ⟨rfl, hZ, hh⟩ := hP
  have hx := Bd.exec
  have hby := Bd.bytes
  have hml : c.maxLocals = 1 := hml0
  have hown : s.vm.findClass "com/example/gatedb/gatedb/pgwire/PgTypeOfOidPinLaw" = some m.cls := findClass_of_methodNamed Bd.named
  have hnm := (name_of_methodNamed Bd.named Bd.method).1
  have X0 : Stand p l e ({ frames := 0, cells := 0, slots := 0, locals := 0 } : Room) s m #[(.int p0)] below meth c s₁ [] 0 0 := Stand.of_body Bd
  have e0 : s₁.heap = h0 := by rw [← hh, Bd.state]; rfl
  have N0 := Fr.nil n0
  have pre0 : ∀ t, Steps p.tables e below (s₁.setTop (mkF m 0 #[.val (.int p0)] [])) t → Steps p.tables e below (s₁.setTop (entryFrame m #[(.int p0)] 1)) t := fun t k => castTop (ef1 m p0) k
  have S1 : ∀ t, Steps p.tables e below (s₁.setTop (mkF m 1 #[.val (.int p0)] [(.int p0)])) t → Steps p.tables e below (s₁.setTop (entryFrame m #[(.int p0)] 1)) t := by
    intro t kt
    refine pre0 _ ?_
    show Steps p.tables e below (s₁.setTop (mkF m 0 #[.val (.int p0)] [])) _
    refine XS.iloadN X0.here hx rfl (hb hby d1_0) rfl ?_
    exact kt
  by_cases hc1_2 : p0 = 0
  case pos =>
    obtain ⟨fs, hrT, hrunT, hendT, hWT, hsameT⟩ := X0.leave (hlocks := BodyLoose.notSynchronized Bd) (v := some (.int (16 : Int32))) (fun h => by rw [Bd.returns] at h; cases h)
    refine ⟨_, _, S1 _ ?_, hrunT, hendT, _, _, rfl, ?_, ⟨_, rfl⟩, hWT, hsameT.mono (by decide) (by decide)⟩
    · show Steps p.tables e below (s₁.setTop (mkF m 1 #[.val (.int p0)] [(.int p0)])) _
      refine XS.ifNo X0.here hx rfl (hb hby d1_1) rfl (XT.i0_ne_f hc1_2) ?_
      show Steps p.tables e below (s₁.setTop (mkF m 4 #[.val (.int p0)] [])) _
      refine XS.bipush X0.here hx rfl (hb hby d1_4) ?_
      show Steps p.tables e below (s₁.setTop (mkF m 6 #[.val (.int p0)] [(.int (16 : Int32))])) _
      exact retI X0 hx Bd.returns (hb hby d1_6) hrT
    · show Q1 Z p0 h0 n0 _ s₁.heap _
      rw [e0]
      have hv : f_oid p0 = (16 : Int32) := by unfold f_oid; rw [if_pos hc1_2]
      exact ⟨(congrArg (fun z => some (Value.int z)) hv.symm), N0, rfl⟩
  case neg =>
    have S3 : ∀ t, Steps p.tables e below (s₁.setTop (mkF m 9 #[.val (.int p0)] [(.int (1 : Int32)), (.int p0)])) t → Steps p.tables e below (s₁.setTop (entryFrame m #[(.int p0)] 1)) t := by
      intro t kt
      refine S1 _ ?_
      show Steps p.tables e below (s₁.setTop (mkF m 1 #[.val (.int p0)] [(.int p0)])) _
      refine XS.ifYes X0.here hx rfl (pc0 := 1) (pc' := 7) rfl (hb hby d1_1) rfl (XT.i0_ne_t hc1_2) (by decide) (by decide) ?_
      show Steps p.tables e below (s₁.setTop (mkF m 7 #[.val (.int p0)] [])) _
      refine XS.iloadN X0.here hx rfl (hb hby d1_7) rfl ?_
      show Steps p.tables e below (s₁.setTop (mkF m 8 #[.val (.int p0)] [(.int p0)])) _
      refine XS.iconst X0.here hx rfl (hb hby d1_8) ?_
      exact kt
    by_cases hc9_4 : p0 = (1 : Int32)
    case pos =>
      obtain ⟨fs, hrT, hrunT, hendT, hWT, hsameT⟩ := X0.leave (hlocks := BodyLoose.notSynchronized Bd) (v := some (.int (21 : Int32))) (fun h => by rw [Bd.returns] at h; cases h)
      refine ⟨_, _, S3 _ ?_, hrunT, hendT, _, _, rfl, ?_, ⟨_, rfl⟩, hWT, hsameT.mono (by decide) (by decide)⟩
      · show Steps p.tables e below (s₁.setTop (mkF m 9 #[.val (.int p0)] [(.int (1 : Int32)), (.int p0)])) _
        refine XS.icmpNo X0.here hx rfl (hb hby d1_9) rfl (XT.ii_ne_f hc9_4) ?_
        show Steps p.tables e below (s₁.setTop (mkF m 12 #[.val (.int p0)] [])) _
        refine XS.bipush X0.here hx rfl (hb hby d1_12) ?_
        show Steps p.tables e below (s₁.setTop (mkF m 14 #[.val (.int p0)] [(.int (21 : Int32))])) _
        exact retI X0 hx Bd.returns (hb hby d1_14) hrT
      · show Q1 Z p0 h0 n0 _ s₁.heap _
        rw [e0]
        have hv : f_oid p0 = (21 : Int32) := by unfold f_oid; rw [if_neg hc1_2]; rw [if_pos hc9_4]
        exact ⟨(congrArg (fun z => some (Value.int z)) hv.symm), N0, rfl⟩
    case neg =>
      have S5 : ∀ t, Steps p.tables e below (s₁.setTop (mkF m 17 #[.val (.int p0)] [(.int (2 : Int32)), (.int p0)])) t → Steps p.tables e below (s₁.setTop (entryFrame m #[(.int p0)] 1)) t := by
        intro t kt
        refine S3 _ ?_
        show Steps p.tables e below (s₁.setTop (mkF m 9 #[.val (.int p0)] [(.int (1 : Int32)), (.int p0)])) _
        refine XS.icmpYes X0.here hx rfl (pc0 := 9) (pc' := 15) rfl (hb hby d1_9) rfl (XT.ii_ne_t hc9_4) (by decide) (by decide) ?_
        show Steps p.tables e below (s₁.setTop (mkF m 15 #[.val (.int p0)] [])) _
        refine XS.iloadN X0.here hx rfl (hb hby d1_15) rfl ?_
        show Steps p.tables e below (s₁.setTop (mkF m 16 #[.val (.int p0)] [(.int p0)])) _
        refine XS.iconst X0.here hx rfl (hb hby d1_16) ?_
        exact kt
      by_cases hc17_6 : p0 = (2 : Int32)
      case pos =>
        obtain ⟨fs, hrT, hrunT, hendT, hWT, hsameT⟩ := X0.leave (hlocks := BodyLoose.notSynchronized Bd) (v := some (.int (23 : Int32))) (fun h => by rw [Bd.returns] at h; cases h)
        refine ⟨_, _, S5 _ ?_, hrunT, hendT, _, _, rfl, ?_, ⟨_, rfl⟩, hWT, hsameT.mono (by decide) (by decide)⟩
        · show Steps p.tables e below (s₁.setTop (mkF m 17 #[.val (.int p0)] [(.int (2 : Int32)), (.int p0)])) _
          refine XS.icmpNo X0.here hx rfl (hb hby d1_17) rfl (XT.ii_ne_f hc17_6) ?_
          show Steps p.tables e below (s₁.setTop (mkF m 20 #[.val (.int p0)] [])) _
          refine XS.bipush X0.here hx rfl (hb hby d1_20) ?_
          show Steps p.tables e below (s₁.setTop (mkF m 22 #[.val (.int p0)] [(.int (23 : Int32))])) _
          exact retI X0 hx Bd.returns (hb hby d1_22) hrT
        · show Q1 Z p0 h0 n0 _ s₁.heap _
          rw [e0]
          have hv : f_oid p0 = (23 : Int32) := by unfold f_oid; rw [if_neg hc1_2]; rw [if_neg hc9_4]; rw [if_pos hc17_6]
          exact ⟨(congrArg (fun z => some (Value.int z)) hv.symm), N0, rfl⟩
      case neg =>
        have S7 : ∀ t, Steps p.tables e below (s₁.setTop (mkF m 25 #[.val (.int p0)] [(.int (3 : Int32)), (.int p0)])) t → Steps p.tables e below (s₁.setTop (entryFrame m #[(.int p0)] 1)) t := by
          intro t kt
          refine S5 _ ?_
          show Steps p.tables e below (s₁.setTop (mkF m 17 #[.val (.int p0)] [(.int (2 : Int32)), (.int p0)])) _
          refine XS.icmpYes X0.here hx rfl (pc0 := 17) (pc' := 23) rfl (hb hby d1_17) rfl (XT.ii_ne_t hc17_6) (by decide) (by decide) ?_
          show Steps p.tables e below (s₁.setTop (mkF m 23 #[.val (.int p0)] [])) _
          refine XS.iloadN X0.here hx rfl (hb hby d1_23) rfl ?_
          show Steps p.tables e below (s₁.setTop (mkF m 24 #[.val (.int p0)] [(.int p0)])) _
          refine XS.iconst X0.here hx rfl (hb hby d1_24) ?_
          exact kt
        by_cases hc25_8 : p0 = (3 : Int32)
        case pos =>
          obtain ⟨fs, hrT, hrunT, hendT, hWT, hsameT⟩ := X0.leave (hlocks := BodyLoose.notSynchronized Bd) (v := some (.int (20 : Int32))) (fun h => by rw [Bd.returns] at h; cases h)
          refine ⟨_, _, S7 _ ?_, hrunT, hendT, _, _, rfl, ?_, ⟨_, rfl⟩, hWT, hsameT.mono (by decide) (by decide)⟩
          · show Steps p.tables e below (s₁.setTop (mkF m 25 #[.val (.int p0)] [(.int (3 : Int32)), (.int p0)])) _
            refine XS.icmpNo X0.here hx rfl (hb hby d1_25) rfl (XT.ii_ne_f hc25_8) ?_
            show Steps p.tables e below (s₁.setTop (mkF m 28 #[.val (.int p0)] [])) _
            refine XS.bipush X0.here hx rfl (hb hby d1_28) ?_
            show Steps p.tables e below (s₁.setTop (mkF m 30 #[.val (.int p0)] [(.int (20 : Int32))])) _
            exact retI X0 hx Bd.returns (hb hby d1_30) hrT
          · show Q1 Z p0 h0 n0 _ s₁.heap _
            rw [e0]
            have hv : f_oid p0 = (20 : Int32) := by unfold f_oid; rw [if_neg hc1_2]; rw [if_neg hc9_4]; rw [if_neg hc17_6]; rw [if_pos hc25_8]
            exact ⟨(congrArg (fun z => some (Value.int z)) hv.symm), N0, rfl⟩
        case neg =>
          have S9 : ∀ t, Steps p.tables e below (s₁.setTop (mkF m 33 #[.val (.int p0)] [(.int (4 : Int32)), (.int p0)])) t → Steps p.tables e below (s₁.setTop (entryFrame m #[(.int p0)] 1)) t := by
            intro t kt
            refine S7 _ ?_
            show Steps p.tables e below (s₁.setTop (mkF m 25 #[.val (.int p0)] [(.int (3 : Int32)), (.int p0)])) _
            refine XS.icmpYes X0.here hx rfl (pc0 := 25) (pc' := 31) rfl (hb hby d1_25) rfl (XT.ii_ne_t hc25_8) (by decide) (by decide) ?_
            show Steps p.tables e below (s₁.setTop (mkF m 31 #[.val (.int p0)] [])) _
            refine XS.iloadN X0.here hx rfl (hb hby d1_31) rfl ?_
            show Steps p.tables e below (s₁.setTop (mkF m 32 #[.val (.int p0)] [(.int p0)])) _
            refine XS.iconst X0.here hx rfl (hb hby d1_32) ?_
            exact kt
          by_cases hc33_10 : p0 = (4 : Int32)
          case pos =>
            obtain ⟨fs, hrT, hrunT, hendT, hWT, hsameT⟩ := X0.leave (hlocks := BodyLoose.notSynchronized Bd) (v := some (.int (25 : Int32))) (fun h => by rw [Bd.returns] at h; cases h)
            refine ⟨_, _, S9 _ ?_, hrunT, hendT, _, _, rfl, ?_, ⟨_, rfl⟩, hWT, hsameT.mono (by decide) (by decide)⟩
            · show Steps p.tables e below (s₁.setTop (mkF m 33 #[.val (.int p0)] [(.int (4 : Int32)), (.int p0)])) _
              refine XS.icmpNo X0.here hx rfl (hb hby d1_33) rfl (XT.ii_ne_f hc33_10) ?_
              show Steps p.tables e below (s₁.setTop (mkF m 36 #[.val (.int p0)] [])) _
              refine XS.bipush X0.here hx rfl (hb hby d1_36) ?_
              show Steps p.tables e below (s₁.setTop (mkF m 38 #[.val (.int p0)] [(.int (25 : Int32))])) _
              exact retI X0 hx Bd.returns (hb hby d1_38) hrT
            · show Q1 Z p0 h0 n0 _ s₁.heap _
              rw [e0]
              have hv : f_oid p0 = (25 : Int32) := by unfold f_oid; rw [if_neg hc1_2]; rw [if_neg hc9_4]; rw [if_neg hc17_6]; rw [if_neg hc25_8]; rw [if_pos hc33_10]
              exact ⟨(congrArg (fun z => some (Value.int z)) hv.symm), N0, rfl⟩
          case neg =>
            have S11 : ∀ t, Steps p.tables e below (s₁.setTop (mkF m 41 #[.val (.int p0)] [(.int (5 : Int32)), (.int p0)])) t → Steps p.tables e below (s₁.setTop (entryFrame m #[(.int p0)] 1)) t := by
              intro t kt
              refine S9 _ ?_
              show Steps p.tables e below (s₁.setTop (mkF m 33 #[.val (.int p0)] [(.int (4 : Int32)), (.int p0)])) _
              refine XS.icmpYes X0.here hx rfl (pc0 := 33) (pc' := 39) rfl (hb hby d1_33) rfl (XT.ii_ne_t hc33_10) (by decide) (by decide) ?_
              show Steps p.tables e below (s₁.setTop (mkF m 39 #[.val (.int p0)] [])) _
              refine XS.iloadN X0.here hx rfl (hb hby d1_39) rfl ?_
              show Steps p.tables e below (s₁.setTop (mkF m 40 #[.val (.int p0)] [(.int p0)])) _
              refine XS.iconst X0.here hx rfl (hb hby d1_40) ?_
              exact kt
            by_cases hc41_12 : p0 = (5 : Int32)
            case pos =>
              obtain ⟨fs, hrT, hrunT, hendT, hWT, hsameT⟩ := X0.leave (hlocks := BodyLoose.notSynchronized Bd) (v := some (.int (1043 : Int32))) (fun h => by rw [Bd.returns] at h; cases h)
              refine ⟨_, _, S11 _ ?_, hrunT, hendT, _, _, rfl, ?_, ⟨_, rfl⟩, hWT, hsameT.mono (by decide) (by decide)⟩
              · show Steps p.tables e below (s₁.setTop (mkF m 41 #[.val (.int p0)] [(.int (5 : Int32)), (.int p0)])) _
                refine XS.icmpNo X0.here hx rfl (hb hby d1_41) rfl (XT.ii_ne_f hc41_12) ?_
                show Steps p.tables e below (s₁.setTop (mkF m 44 #[.val (.int p0)] [])) _
                refine XS.sipush X0.here hx rfl (hb hby d1_44) ?_
                show Steps p.tables e below (s₁.setTop (mkF m 47 #[.val (.int p0)] [(.int (1043 : Int32))])) _
                exact retI X0 hx Bd.returns (hb hby d1_47) hrT
              · show Q1 Z p0 h0 n0 _ s₁.heap _
                rw [e0]
                have hv : f_oid p0 = (1043 : Int32) := by unfold f_oid; rw [if_neg hc1_2]; rw [if_neg hc9_4]; rw [if_neg hc17_6]; rw [if_neg hc25_8]; rw [if_neg hc33_10]; rw [if_pos hc41_12]
                exact ⟨(congrArg (fun z => some (Value.int z)) hv.symm), N0, rfl⟩
            case neg =>
              have S13 : ∀ t, Steps p.tables e below (s₁.setTop (mkF m 51 #[.val (.int p0)] [(.int (6 : Int32)), (.int p0)])) t → Steps p.tables e below (s₁.setTop (entryFrame m #[(.int p0)] 1)) t := by
                intro t kt
                refine S11 _ ?_
                show Steps p.tables e below (s₁.setTop (mkF m 41 #[.val (.int p0)] [(.int (5 : Int32)), (.int p0)])) _
                refine XS.icmpYes X0.here hx rfl (pc0 := 41) (pc' := 48) rfl (hb hby d1_41) rfl (XT.ii_ne_t hc41_12) (by decide) (by decide) ?_
                show Steps p.tables e below (s₁.setTop (mkF m 48 #[.val (.int p0)] [])) _
                refine XS.iloadN X0.here hx rfl (hb hby d1_48) rfl ?_
                show Steps p.tables e below (s₁.setTop (mkF m 49 #[.val (.int p0)] [(.int p0)])) _
                refine XS.bipush X0.here hx rfl (hb hby d1_49) ?_
                exact kt
              by_cases hc51_14 : p0 = (6 : Int32)
              case pos =>
                obtain ⟨fs, hrT, hrunT, hendT, hWT, hsameT⟩ := X0.leave (hlocks := BodyLoose.notSynchronized Bd) (v := some (.int (1042 : Int32))) (fun h => by rw [Bd.returns] at h; cases h)
                refine ⟨_, _, S13 _ ?_, hrunT, hendT, _, _, rfl, ?_, ⟨_, rfl⟩, hWT, hsameT.mono (by decide) (by decide)⟩
                · show Steps p.tables e below (s₁.setTop (mkF m 51 #[.val (.int p0)] [(.int (6 : Int32)), (.int p0)])) _
                  refine XS.icmpNo X0.here hx rfl (hb hby d1_51) rfl (XT.ii_ne_f hc51_14) ?_
                  show Steps p.tables e below (s₁.setTop (mkF m 54 #[.val (.int p0)] [])) _
                  refine XS.sipush X0.here hx rfl (hb hby d1_54) ?_
                  show Steps p.tables e below (s₁.setTop (mkF m 57 #[.val (.int p0)] [(.int (1042 : Int32))])) _
                  exact retI X0 hx Bd.returns (hb hby d1_57) hrT
                · show Q1 Z p0 h0 n0 _ s₁.heap _
                  rw [e0]
                  have hv : f_oid p0 = (1042 : Int32) := by unfold f_oid; rw [if_neg hc1_2]; rw [if_neg hc9_4]; rw [if_neg hc17_6]; rw [if_neg hc25_8]; rw [if_neg hc33_10]; rw [if_neg hc41_12]; rw [if_pos hc51_14]
                  exact ⟨(congrArg (fun z => some (Value.int z)) hv.symm), N0, rfl⟩
              case neg =>
                have S15 : ∀ t, Steps p.tables e below (s₁.setTop (mkF m 61 #[.val (.int p0)] [(.int (7 : Int32)), (.int p0)])) t → Steps p.tables e below (s₁.setTop (entryFrame m #[(.int p0)] 1)) t := by
                  intro t kt
                  refine S13 _ ?_
                  show Steps p.tables e below (s₁.setTop (mkF m 51 #[.val (.int p0)] [(.int (6 : Int32)), (.int p0)])) _
                  refine XS.icmpYes X0.here hx rfl (pc0 := 51) (pc' := 58) rfl (hb hby d1_51) rfl (XT.ii_ne_t hc51_14) (by decide) (by decide) ?_
                  show Steps p.tables e below (s₁.setTop (mkF m 58 #[.val (.int p0)] [])) _
                  refine XS.iloadN X0.here hx rfl (hb hby d1_58) rfl ?_
                  show Steps p.tables e below (s₁.setTop (mkF m 59 #[.val (.int p0)] [(.int p0)])) _
                  refine XS.bipush X0.here hx rfl (hb hby d1_59) ?_
                  exact kt
                by_cases hc61_16 : p0 = (7 : Int32)
                case pos =>
                  obtain ⟨fs, hrT, hrunT, hendT, hWT, hsameT⟩ := X0.leave (hlocks := BodyLoose.notSynchronized Bd) (v := some (.int (19 : Int32))) (fun h => by rw [Bd.returns] at h; cases h)
                  refine ⟨_, _, S15 _ ?_, hrunT, hendT, _, _, rfl, ?_, ⟨_, rfl⟩, hWT, hsameT.mono (by decide) (by decide)⟩
                  · show Steps p.tables e below (s₁.setTop (mkF m 61 #[.val (.int p0)] [(.int (7 : Int32)), (.int p0)])) _
                    refine XS.icmpNo X0.here hx rfl (hb hby d1_61) rfl (XT.ii_ne_f hc61_16) ?_
                    show Steps p.tables e below (s₁.setTop (mkF m 64 #[.val (.int p0)] [])) _
                    refine XS.bipush X0.here hx rfl (hb hby d1_64) ?_
                    show Steps p.tables e below (s₁.setTop (mkF m 66 #[.val (.int p0)] [(.int (19 : Int32))])) _
                    exact retI X0 hx Bd.returns (hb hby d1_66) hrT
                  · show Q1 Z p0 h0 n0 _ s₁.heap _
                    rw [e0]
                    have hv : f_oid p0 = (19 : Int32) := by unfold f_oid; rw [if_neg hc1_2]; rw [if_neg hc9_4]; rw [if_neg hc17_6]; rw [if_neg hc25_8]; rw [if_neg hc33_10]; rw [if_neg hc41_12]; rw [if_neg hc51_14]; rw [if_pos hc61_16]
                    exact ⟨(congrArg (fun z => some (Value.int z)) hv.symm), N0, rfl⟩
                case neg =>
                  have S17 : ∀ t, Steps p.tables e below (s₁.setTop (mkF m 70 #[.val (.int p0)] [(.int (8 : Int32)), (.int p0)])) t → Steps p.tables e below (s₁.setTop (entryFrame m #[(.int p0)] 1)) t := by
                    intro t kt
                    refine S15 _ ?_
                    show Steps p.tables e below (s₁.setTop (mkF m 61 #[.val (.int p0)] [(.int (7 : Int32)), (.int p0)])) _
                    refine XS.icmpYes X0.here hx rfl (pc0 := 61) (pc' := 67) rfl (hb hby d1_61) rfl (XT.ii_ne_t hc61_16) (by decide) (by decide) ?_
                    show Steps p.tables e below (s₁.setTop (mkF m 67 #[.val (.int p0)] [])) _
                    refine XS.iloadN X0.here hx rfl (hb hby d1_67) rfl ?_
                    show Steps p.tables e below (s₁.setTop (mkF m 68 #[.val (.int p0)] [(.int p0)])) _
                    refine XS.bipush X0.here hx rfl (hb hby d1_68) ?_
                    exact kt
                  by_cases hc70_18 : p0 = (8 : Int32)
                  case pos =>
                    obtain ⟨fs, hrT, hrunT, hendT, hWT, hsameT⟩ := X0.leave (hlocks := BodyLoose.notSynchronized Bd) (v := some (.int (700 : Int32))) (fun h => by rw [Bd.returns] at h; cases h)
                    refine ⟨_, _, S17 _ ?_, hrunT, hendT, _, _, rfl, ?_, ⟨_, rfl⟩, hWT, hsameT.mono (by decide) (by decide)⟩
                    · show Steps p.tables e below (s₁.setTop (mkF m 70 #[.val (.int p0)] [(.int (8 : Int32)), (.int p0)])) _
                      refine XS.icmpNo X0.here hx rfl (hb hby d1_70) rfl (XT.ii_ne_f hc70_18) ?_
                      show Steps p.tables e below (s₁.setTop (mkF m 73 #[.val (.int p0)] [])) _
                      refine XS.sipush X0.here hx rfl (hb hby d1_73) ?_
                      show Steps p.tables e below (s₁.setTop (mkF m 76 #[.val (.int p0)] [(.int (700 : Int32))])) _
                      exact retI X0 hx Bd.returns (hb hby d1_76) hrT
                    · show Q1 Z p0 h0 n0 _ s₁.heap _
                      rw [e0]
                      have hv : f_oid p0 = (700 : Int32) := by unfold f_oid; rw [if_neg hc1_2]; rw [if_neg hc9_4]; rw [if_neg hc17_6]; rw [if_neg hc25_8]; rw [if_neg hc33_10]; rw [if_neg hc41_12]; rw [if_neg hc51_14]; rw [if_neg hc61_16]; rw [if_pos hc70_18]
                      exact ⟨(congrArg (fun z => some (Value.int z)) hv.symm), N0, rfl⟩
                  case neg =>
                    have S19 : ∀ t, Steps p.tables e below (s₁.setTop (mkF m 80 #[.val (.int p0)] [(.int (9 : Int32)), (.int p0)])) t → Steps p.tables e below (s₁.setTop (entryFrame m #[(.int p0)] 1)) t := by
                      intro t kt
                      refine S17 _ ?_
                      show Steps p.tables e below (s₁.setTop (mkF m 70 #[.val (.int p0)] [(.int (8 : Int32)), (.int p0)])) _
                      refine XS.icmpYes X0.here hx rfl (pc0 := 70) (pc' := 77) rfl (hb hby d1_70) rfl (XT.ii_ne_t hc70_18) (by decide) (by decide) ?_
                      show Steps p.tables e below (s₁.setTop (mkF m 77 #[.val (.int p0)] [])) _
                      refine XS.iloadN X0.here hx rfl (hb hby d1_77) rfl ?_
                      show Steps p.tables e below (s₁.setTop (mkF m 78 #[.val (.int p0)] [(.int p0)])) _
                      refine XS.bipush X0.here hx rfl (hb hby d1_78) ?_
                      exact kt
                    by_cases hc80_20 : p0 = (9 : Int32)
                    case pos =>
                      obtain ⟨fs, hrT, hrunT, hendT, hWT, hsameT⟩ := X0.leave (hlocks := BodyLoose.notSynchronized Bd) (v := some (.int (701 : Int32))) (fun h => by rw [Bd.returns] at h; cases h)
                      refine ⟨_, _, S19 _ ?_, hrunT, hendT, _, _, rfl, ?_, ⟨_, rfl⟩, hWT, hsameT.mono (by decide) (by decide)⟩
                      · show Steps p.tables e below (s₁.setTop (mkF m 80 #[.val (.int p0)] [(.int (9 : Int32)), (.int p0)])) _
                        refine XS.icmpNo X0.here hx rfl (hb hby d1_80) rfl (XT.ii_ne_f hc80_20) ?_
                        show Steps p.tables e below (s₁.setTop (mkF m 83 #[.val (.int p0)] [])) _
                        refine XS.sipush X0.here hx rfl (hb hby d1_83) ?_
                        show Steps p.tables e below (s₁.setTop (mkF m 86 #[.val (.int p0)] [(.int (701 : Int32))])) _
                        exact retI X0 hx Bd.returns (hb hby d1_86) hrT
                      · show Q1 Z p0 h0 n0 _ s₁.heap _
                        rw [e0]
                        have hv : f_oid p0 = (701 : Int32) := by unfold f_oid; rw [if_neg hc1_2]; rw [if_neg hc9_4]; rw [if_neg hc17_6]; rw [if_neg hc25_8]; rw [if_neg hc33_10]; rw [if_neg hc41_12]; rw [if_neg hc51_14]; rw [if_neg hc61_16]; rw [if_neg hc70_18]; rw [if_pos hc80_20]
                        exact ⟨(congrArg (fun z => some (Value.int z)) hv.symm), N0, rfl⟩
                    case neg =>
                      have S21 : ∀ t, Steps p.tables e below (s₁.setTop (mkF m 90 #[.val (.int p0)] [(.int (10 : Int32)), (.int p0)])) t → Steps p.tables e below (s₁.setTop (entryFrame m #[(.int p0)] 1)) t := by
                        intro t kt
                        refine S19 _ ?_
                        show Steps p.tables e below (s₁.setTop (mkF m 80 #[.val (.int p0)] [(.int (9 : Int32)), (.int p0)])) _
                        refine XS.icmpYes X0.here hx rfl (pc0 := 80) (pc' := 87) rfl (hb hby d1_80) rfl (XT.ii_ne_t hc80_20) (by decide) (by decide) ?_
                        show Steps p.tables e below (s₁.setTop (mkF m 87 #[.val (.int p0)] [])) _
                        refine XS.iloadN X0.here hx rfl (hb hby d1_87) rfl ?_
                        show Steps p.tables e below (s₁.setTop (mkF m 88 #[.val (.int p0)] [(.int p0)])) _
                        refine XS.bipush X0.here hx rfl (hb hby d1_88) ?_
                        exact kt
                      by_cases hc90_22 : p0 = (10 : Int32)
                      case pos =>
                        obtain ⟨fs, hrT, hrunT, hendT, hWT, hsameT⟩ := X0.leave (hlocks := BodyLoose.notSynchronized Bd) (v := some (.int (1700 : Int32))) (fun h => by rw [Bd.returns] at h; cases h)
                        refine ⟨_, _, S21 _ ?_, hrunT, hendT, _, _, rfl, ?_, ⟨_, rfl⟩, hWT, hsameT.mono (by decide) (by decide)⟩
                        · show Steps p.tables e below (s₁.setTop (mkF m 90 #[.val (.int p0)] [(.int (10 : Int32)), (.int p0)])) _
                          refine XS.icmpNo X0.here hx rfl (hb hby d1_90) rfl (XT.ii_ne_f hc90_22) ?_
                          show Steps p.tables e below (s₁.setTop (mkF m 93 #[.val (.int p0)] [])) _
                          refine XS.sipush X0.here hx rfl (hb hby d1_93) ?_
                          show Steps p.tables e below (s₁.setTop (mkF m 96 #[.val (.int p0)] [(.int (1700 : Int32))])) _
                          exact retI X0 hx Bd.returns (hb hby d1_96) hrT
                        · show Q1 Z p0 h0 n0 _ s₁.heap _
                          rw [e0]
                          have hv : f_oid p0 = (1700 : Int32) := by unfold f_oid; rw [if_neg hc1_2]; rw [if_neg hc9_4]; rw [if_neg hc17_6]; rw [if_neg hc25_8]; rw [if_neg hc33_10]; rw [if_neg hc41_12]; rw [if_neg hc51_14]; rw [if_neg hc61_16]; rw [if_neg hc70_18]; rw [if_neg hc80_20]; rw [if_pos hc90_22]
                          exact ⟨(congrArg (fun z => some (Value.int z)) hv.symm), N0, rfl⟩
                      case neg =>
                        have S23 : ∀ t, Steps p.tables e below (s₁.setTop (mkF m 100 #[.val (.int p0)] [(.int (11 : Int32)), (.int p0)])) t → Steps p.tables e below (s₁.setTop (entryFrame m #[(.int p0)] 1)) t := by
                          intro t kt
                          refine S21 _ ?_
                          show Steps p.tables e below (s₁.setTop (mkF m 90 #[.val (.int p0)] [(.int (10 : Int32)), (.int p0)])) _
                          refine XS.icmpYes X0.here hx rfl (pc0 := 90) (pc' := 97) rfl (hb hby d1_90) rfl (XT.ii_ne_t hc90_22) (by decide) (by decide) ?_
                          show Steps p.tables e below (s₁.setTop (mkF m 97 #[.val (.int p0)] [])) _
                          refine XS.iloadN X0.here hx rfl (hb hby d1_97) rfl ?_
                          show Steps p.tables e below (s₁.setTop (mkF m 98 #[.val (.int p0)] [(.int p0)])) _
                          refine XS.bipush X0.here hx rfl (hb hby d1_98) ?_
                          exact kt
                        by_cases hc100_24 : p0 = (11 : Int32)
                        case pos =>
                          obtain ⟨fs, hrT, hrunT, hendT, hWT, hsameT⟩ := X0.leave (hlocks := BodyLoose.notSynchronized Bd) (v := some (.int (1082 : Int32))) (fun h => by rw [Bd.returns] at h; cases h)
                          refine ⟨_, _, S23 _ ?_, hrunT, hendT, _, _, rfl, ?_, ⟨_, rfl⟩, hWT, hsameT.mono (by decide) (by decide)⟩
                          · show Steps p.tables e below (s₁.setTop (mkF m 100 #[.val (.int p0)] [(.int (11 : Int32)), (.int p0)])) _
                            refine XS.icmpNo X0.here hx rfl (hb hby d1_100) rfl (XT.ii_ne_f hc100_24) ?_
                            show Steps p.tables e below (s₁.setTop (mkF m 103 #[.val (.int p0)] [])) _
                            refine XS.sipush X0.here hx rfl (hb hby d1_103) ?_
                            show Steps p.tables e below (s₁.setTop (mkF m 106 #[.val (.int p0)] [(.int (1082 : Int32))])) _
                            exact retI X0 hx Bd.returns (hb hby d1_106) hrT
                          · show Q1 Z p0 h0 n0 _ s₁.heap _
                            rw [e0]
                            have hv : f_oid p0 = (1082 : Int32) := by unfold f_oid; rw [if_neg hc1_2]; rw [if_neg hc9_4]; rw [if_neg hc17_6]; rw [if_neg hc25_8]; rw [if_neg hc33_10]; rw [if_neg hc41_12]; rw [if_neg hc51_14]; rw [if_neg hc61_16]; rw [if_neg hc70_18]; rw [if_neg hc80_20]; rw [if_neg hc90_22]; rw [if_pos hc100_24]
                            exact ⟨(congrArg (fun z => some (Value.int z)) hv.symm), N0, rfl⟩
                        case neg =>
                          have S25 : ∀ t, Steps p.tables e below (s₁.setTop (mkF m 110 #[.val (.int p0)] [(.int (12 : Int32)), (.int p0)])) t → Steps p.tables e below (s₁.setTop (entryFrame m #[(.int p0)] 1)) t := by
                            intro t kt
                            refine S23 _ ?_
                            show Steps p.tables e below (s₁.setTop (mkF m 100 #[.val (.int p0)] [(.int (11 : Int32)), (.int p0)])) _
                            refine XS.icmpYes X0.here hx rfl (pc0 := 100) (pc' := 107) rfl (hb hby d1_100) rfl (XT.ii_ne_t hc100_24) (by decide) (by decide) ?_
                            show Steps p.tables e below (s₁.setTop (mkF m 107 #[.val (.int p0)] [])) _
                            refine XS.iloadN X0.here hx rfl (hb hby d1_107) rfl ?_
                            show Steps p.tables e below (s₁.setTop (mkF m 108 #[.val (.int p0)] [(.int p0)])) _
                            refine XS.bipush X0.here hx rfl (hb hby d1_108) ?_
                            exact kt
                          by_cases hc110_26 : p0 = (12 : Int32)
                          case pos =>
                            obtain ⟨fs, hrT, hrunT, hendT, hWT, hsameT⟩ := X0.leave (hlocks := BodyLoose.notSynchronized Bd) (v := some (.int (1083 : Int32))) (fun h => by rw [Bd.returns] at h; cases h)
                            refine ⟨_, _, S25 _ ?_, hrunT, hendT, _, _, rfl, ?_, ⟨_, rfl⟩, hWT, hsameT.mono (by decide) (by decide)⟩
                            · show Steps p.tables e below (s₁.setTop (mkF m 110 #[.val (.int p0)] [(.int (12 : Int32)), (.int p0)])) _
                              refine XS.icmpNo X0.here hx rfl (hb hby d1_110) rfl (XT.ii_ne_f hc110_26) ?_
                              show Steps p.tables e below (s₁.setTop (mkF m 113 #[.val (.int p0)] [])) _
                              refine XS.sipush X0.here hx rfl (hb hby d1_113) ?_
                              show Steps p.tables e below (s₁.setTop (mkF m 116 #[.val (.int p0)] [(.int (1083 : Int32))])) _
                              exact retI X0 hx Bd.returns (hb hby d1_116) hrT
                            · show Q1 Z p0 h0 n0 _ s₁.heap _
                              rw [e0]
                              have hv : f_oid p0 = (1083 : Int32) := by unfold f_oid; rw [if_neg hc1_2]; rw [if_neg hc9_4]; rw [if_neg hc17_6]; rw [if_neg hc25_8]; rw [if_neg hc33_10]; rw [if_neg hc41_12]; rw [if_neg hc51_14]; rw [if_neg hc61_16]; rw [if_neg hc70_18]; rw [if_neg hc80_20]; rw [if_neg hc90_22]; rw [if_neg hc100_24]; rw [if_pos hc110_26]
                              exact ⟨(congrArg (fun z => some (Value.int z)) hv.symm), N0, rfl⟩
                          case neg =>
                            have S27 : ∀ t, Steps p.tables e below (s₁.setTop (mkF m 120 #[.val (.int p0)] [(.int (13 : Int32)), (.int p0)])) t → Steps p.tables e below (s₁.setTop (entryFrame m #[(.int p0)] 1)) t := by
                              intro t kt
                              refine S25 _ ?_
                              show Steps p.tables e below (s₁.setTop (mkF m 110 #[.val (.int p0)] [(.int (12 : Int32)), (.int p0)])) _
                              refine XS.icmpYes X0.here hx rfl (pc0 := 110) (pc' := 117) rfl (hb hby d1_110) rfl (XT.ii_ne_t hc110_26) (by decide) (by decide) ?_
                              show Steps p.tables e below (s₁.setTop (mkF m 117 #[.val (.int p0)] [])) _
                              refine XS.iloadN X0.here hx rfl (hb hby d1_117) rfl ?_
                              show Steps p.tables e below (s₁.setTop (mkF m 118 #[.val (.int p0)] [(.int p0)])) _
                              refine XS.bipush X0.here hx rfl (hb hby d1_118) ?_
                              exact kt
                            by_cases hc120_28 : p0 = (13 : Int32)
                            case pos =>
                              obtain ⟨fs, hrT, hrunT, hendT, hWT, hsameT⟩ := X0.leave (hlocks := BodyLoose.notSynchronized Bd) (v := some (.int (1114 : Int32))) (fun h => by rw [Bd.returns] at h; cases h)
                              refine ⟨_, _, S27 _ ?_, hrunT, hendT, _, _, rfl, ?_, ⟨_, rfl⟩, hWT, hsameT.mono (by decide) (by decide)⟩
                              · show Steps p.tables e below (s₁.setTop (mkF m 120 #[.val (.int p0)] [(.int (13 : Int32)), (.int p0)])) _
                                refine XS.icmpNo X0.here hx rfl (hb hby d1_120) rfl (XT.ii_ne_f hc120_28) ?_
                                show Steps p.tables e below (s₁.setTop (mkF m 123 #[.val (.int p0)] [])) _
                                refine XS.sipush X0.here hx rfl (hb hby d1_123) ?_
                                show Steps p.tables e below (s₁.setTop (mkF m 126 #[.val (.int p0)] [(.int (1114 : Int32))])) _
                                exact retI X0 hx Bd.returns (hb hby d1_126) hrT
                              · show Q1 Z p0 h0 n0 _ s₁.heap _
                                rw [e0]
                                have hv : f_oid p0 = (1114 : Int32) := by unfold f_oid; rw [if_neg hc1_2]; rw [if_neg hc9_4]; rw [if_neg hc17_6]; rw [if_neg hc25_8]; rw [if_neg hc33_10]; rw [if_neg hc41_12]; rw [if_neg hc51_14]; rw [if_neg hc61_16]; rw [if_neg hc70_18]; rw [if_neg hc80_20]; rw [if_neg hc90_22]; rw [if_neg hc100_24]; rw [if_neg hc110_26]; rw [if_pos hc120_28]
                                exact ⟨(congrArg (fun z => some (Value.int z)) hv.symm), N0, rfl⟩
                            case neg =>
                              obtain ⟨fs, hrT, hrunT, hendT, hWT, hsameT⟩ := X0.leave (hlocks := BodyLoose.notSynchronized Bd) (v := some (.int (1184 : Int32))) (fun h => by rw [Bd.returns] at h; cases h)
                              refine ⟨_, _, S27 _ ?_, hrunT, hendT, _, _, rfl, ?_, ⟨_, rfl⟩, hWT, hsameT.mono (by decide) (by decide)⟩
                              · show Steps p.tables e below (s₁.setTop (mkF m 120 #[.val (.int p0)] [(.int (13 : Int32)), (.int p0)])) _
                                refine XS.icmpYes X0.here hx rfl (pc0 := 120) (pc' := 127) rfl (hb hby d1_120) rfl (XT.ii_ne_t hc120_28) (by decide) (by decide) ?_
                                show Steps p.tables e below (s₁.setTop (mkF m 127 #[.val (.int p0)] [])) _
                                refine XS.sipush X0.here hx rfl (hb hby d1_127) ?_
                                show Steps p.tables e below (s₁.setTop (mkF m 130 #[.val (.int p0)] [(.int (1184 : Int32))])) _
                                exact retI X0 hx Bd.returns (hb hby d1_130) hrT
                              · show Q1 Z p0 h0 n0 _ s₁.heap _
                                rw [e0]
                                have hv : f_oid p0 = (1184 : Int32) := by unfold f_oid; rw [if_neg hc1_2]; rw [if_neg hc9_4]; rw [if_neg hc17_6]; rw [if_neg hc25_8]; rw [if_neg hc33_10]; rw [if_neg hc41_12]; rw [if_neg hc51_14]; rw [if_neg hc61_16]; rw [if_neg hc70_18]; rw [if_neg hc80_20]; rw [if_neg hc90_22]; rw [if_neg hc100_24]; rw [if_neg hc110_26]; rw [if_neg hc120_28]
                                exact ⟨(congrArg (fun z => some (Value.int z)) hv.symm), N0, rfl⟩
theorem d3_0 : decode prog_41_method_1_code 0 = .ok (.getstatic 49, 3) := by decide +kernel
theorem d3_3 : decode prog_41_method_1_code 3 = .ok (.invokevirtual 53, 3) := by decide +kernel
theorem d3_6 : decode prog_41_method_1_code 6 = .ok (.checkcast 54, 3) := by decide +kernel
theorem d3_9 : decode prog_41_method_1_code 9 = .ok (.areturn, 1) := by decide +kernel
theorem pn_PgType : plainName "com/example/gatedb/gatedb/pgwire/PgType" = true := by first | (simp [plainName, overriddenIn]; done) | decide +kernel
theorem ef3 (m : MethodId)  : entryFrame m #[] 0 = mkF m 0 #[] [] := by first | (simp [entryFrame, mkF, argsToLocals, Value.category]; done) | rfl
def Q3 (Z : State)  (kV : ClassId) (v__VALUES : Addr) (v_BOOL : Addr) (v_INT2 : Addr) (v_INT4 : Addr) (v_INT8 : Addr) (v_TEXT : Addr) (v_VARCHAR : Addr) (v_BPCHAR : Addr) (v_NAME : Addr) (v_FLOAT4 : Addr) (v_FLOAT8 : Addr) (v_NUMERIC : Addr) (v_DATE : Addr) (v_TIME : Addr) (v_TIMESTAMP : Addr) (v_TIMESTAMPTZ : Addr) (h0 : Heap) (n0 : Nat) (v : Option Value) (h : Heap) (L : List Loc) : Prop := ∃ bb : Addr, v = some (.ref bb) ∧ Fr n0 L ∧ Keep h0 h [] ∧ h0.size ≤ bb ∧ Arv Z h bb kV (.object "com/example/gatedb/gatedb/pgwire/PgType") (15 : Int32) [(.ref v_BOOL), (.ref v_INT2), (.ref v_INT4), (.ref v_INT8), (.ref v_TEXT), (.ref v_VARCHAR), (.ref v_BPCHAR), (.ref v_NAME), (.ref v_FLOAT4), (.ref v_FLOAT8), (.ref v_NUMERIC), (.ref v_DATE), (.ref v_TIME), (.ref v_TIMESTAMP), (.ref v_TIMESTAMPTZ)] .null
set_option maxRecDepth 65536 in
set_option maxHeartbeats 40000000 in
theorem rm3 (l : Launch) (Z : State) (a0 : Array Value) (hw : ∀ d ∈ tables_1, d.before a0 Z = true) (ws : List Jvm.Cond)  (kV : ClassId) (v__VALUES : Addr) (v_BOOL : Addr) (v_INT2 : Addr) (v_INT4 : Addr) (v_INT8 : Addr) (v_TEXT : Addr) (v_VARCHAR : Addr) (v_BPCHAR : Addr) (v_NAME : Addr) (v_FLOAT4 : Addr) (v_FLOAT8 : Addr) (v_NUMERIC : Addr) (v_DATE : Addr) (v_TIME : Addr) (v_TIMESTAMP : Addr) (v_TIMESTAMPTZ : Addr) (h0 : Heap) (n0 : Nat) (Z0 : n0 ≤ h0.size) (Sv__VALUES : Sta Z h0 "com/example/gatedb/gatedb/pgwire/PgType" "$VALUES" "[Lcom/example/gatedb/gatedb/pgwire/PgType;" (.ref v__VALUES)) (Ev__VALUES : Exa Z h0 v__VALUES "[Lcom/example/gatedb/gatedb/pgwire/PgType;") (V0 : Arv Z h0 v__VALUES kV (.object "com/example/gatedb/gatedb/pgwire/PgType") (15 : Int32) [(.ref v_BOOL), (.ref v_INT2), (.ref v_INT4), (.ref v_INT8), (.ref v_TEXT), (.ref v_VARCHAR), (.ref v_BPCHAR), (.ref v_NAME), (.ref v_FLOAT4), (.ref v_FLOAT8), (.ref v_NUMERIC), (.ref v_DATE), (.ref v_TIME), (.ref v_TIMESTAMP), (.ref v_TIMESTAMPTZ)] .null) :
    MetFree l (⟨"com/example/gatedb/gatedb/pgwire/PgType", "values", "()[Lcom/example/gatedb/gatedb/pgwire/PgType;"⟩ : MethodName) (head1 (Jvm.Cond.code (⟨"com/example/gatedb/gatedb/pgwire/PgType", "values", "()[Lcom/example/gatedb/gatedb/pgwire/PgType;"⟩ : MethodName) prog_41_method_1_code 0 (some (.array (.object "com/example/gatedb/gatedb/pgwire/PgType"))) :: ws) ({ frames := 1, cells := 1, slots := 15, locals := 14 } : Room)) (fun a U => a = #[] ∧ Z.Warmed39 U.vm ∧ U.heap = h0) (fun _ _ _ _ _ => True) (fun _ U o U' => ∃ v L, o = .returned v ∧ Q3 Z kV v__VALUES v_BOOL v_INT2 v_INT4 v_INT8 v_TEXT v_VARCHAR v_BPCHAR v_NAME v_FLOAT4 v_FLOAT8 v_NUMERIC v_DATE v_TIME v_TIMESTAMP v_TIMESTAMPTZ h0 n0 v U'.heap L ∧ FrameEnd U o U' L ({ frames := 1, cells := 1, slots := 15, locals := 14 } : Room).cells ({ frames := 1, cells := 1, slots := 15, locals := 14 } : Room).slots) := by
  refine MetFree.of_bodySF (plainFor_of_name pn_PgType) hisR ?_
  intro p e s m args below meth c s₁ Bd hml0 hP hK
  obtain ⟨rfl, hZ, hh⟩ := hP
  have hx := Bd.exec
  have hby := Bd.bytes
  have hml : c.maxLocals = 0 := hml0
  have hown : s.vm.findClass "com/example/gatedb/gatedb/pgwire/PgType" = some m.cls := findClass_of_methodNamed Bd.named
  have hnm := (name_of_methodNamed Bd.named Bd.method).1
  have X0 : Stand p l e ({ frames := 1, cells := 1, slots := 15, locals := 14 } : Room) s m #[] below meth c s₁ [] 0 0 := Stand.of_body Bd
  have e0 : s₁.heap = h0 := by rw [← hh, Bd.state]; rfl
  have N0 := Fr.nil n0
  have pre0 : ∀ t, Steps p.tables e below (s₁.setTop (mkF m 0 #[] [])) t → Steps p.tables e below (s₁.setTop (entryFrame m #[] 0)) t := fun t k => castTop (ef3 m ) k
  obtain ⟨T29, X29, e29, st29⟩ := getS2 X0 hx hZ hown (host := "") (Or.inl (hw _ (List.mem_of_getElem? (i := 12) rfl))) Via.refl e0 Sv__VALUES (g := (mkF m 0 #[] [])) rfl (hb hby d3_0)
  obtain ⟨T30, h30, X30, e30, E30, V30, A30, st30⟩ := cloneH X29 hx hZ hown (hw _ (List.mem_of_getElem? (i := 14) rfl)) (hw _ (List.mem_of_getElem? (i := 15) rfl)) (hw _ (List.mem_of_getElem? (i := 19) rfl)) (hw _ (List.mem_of_getElem? (i := 17) rfl)) (hw _ (List.mem_of_getElem? (i := 18) rfl)) (hw _ (List.mem_of_getElem? (i := 20) rfl)) e29 (Arv.arh V0) Ev__VALUES (g := (mkF m 3 #[] [(.ref v__VALUES)])) rfl (by rw [hml]; rfl) rfl (hb hby d3_3) (by decide) (W := 0) (cap := 15) (by show 2 * 0 + _ ≤ _; exact Nat.le_of_eq rfl) (by decide) (by decide) (by decide) (by decide)
  obtain ⟨b30, g30⟩ : ∃ z, z = h0.size := ⟨_, rfl⟩
  rw [← g30] at V30 A30 st30
  have ge_b30 : n0 ≤ b30 := Nat.le_trans Z0 (Nat.le_of_eq g30.symm)
  have sz_b30 : h0.size ≤ b30 := Nat.le_of_eq g30.symm
  have K31 : Keep h0 h30 [] := (Keep.refl h0 []).ext E30
  have Vv30 : Arv Z h30 b30 kV (.object "com/example/gatedb/gatedb/pgwire/PgType") (15 : Int32) [(.ref v_BOOL), (.ref v_INT2), (.ref v_INT4), (.ref v_INT8), (.ref v_TEXT), (.ref v_VARCHAR), (.ref v_BPCHAR), (.ref v_NAME), (.ref v_FLOAT4), (.ref v_FLOAT8), (.ref v_NUMERIC), (.ref v_DATE), (.ref v_TIME), (.ref v_TIMESTAMP), (.ref v_TIMESTAMPTZ)] .null := V30
  obtain ⟨T32, X32, e32, st32⟩ := castY X30 hx hZ hown (hw _ (List.mem_of_getElem? (i := 37) rfl)) e30 (Ins.self A30) (g := (mkF m 6 #[] [(.ref b30)])) rfl rfl (hb hby d3_6)
  obtain ⟨fs, hrT, hrunT, hendT, hWT, hsameT⟩ := X32.leave (hlocks := BodyLoose.notSynchronized Bd) (v := some (.ref b30)) (fun h => by rw [Bd.returns] at h; cases h)
  refine ⟨_, _, pre0 _ ?_, hrunT, hendT, _, _, rfl, ?_, ⟨_, rfl⟩, hWT, hsameT.mono (by decide) (by decide)⟩
  · show Steps p.tables e below (s₁.setTop (mkF m 0 #[] [])) _
    refine st29 _ ?_
    show Steps p.tables e below (T29.setTop (mkF m 3 #[] [(.ref v__VALUES)])) _
    refine st30 _ ?_
    show Steps p.tables e below (T30.setTop (mkF m 6 #[] [(.ref b30)])) _
    refine st32 _ ?_
    show Steps p.tables e below (T32.setTop (mkF m 9 #[] [(.ref b30)])) _
    exact retOut X32 hx Bd.returns rfl (by right; right; right; right; exact ⟨rfl, rfl, rfl⟩) (hb hby d3_9) hrT
  · show Q3 Z kV v__VALUES v_BOOL v_INT2 v_INT4 v_INT8 v_TEXT v_VARCHAR v_BPCHAR v_NAME v_FLOAT4 v_FLOAT8 v_NUMERIC v_DATE v_TIME v_TIMESTAMP v_TIMESTAMPTZ h0 n0 _ T32.heap _
    rw [e32]
    exact ⟨b30, rfl, N0, K31, sz_b30, Vv30⟩
def f_of (p0 : Int32) (v_BOOL v_INT2 v_INT4 v_INT8 v_TEXT v_VARCHAR v_BPCHAR v_NAME v_FLOAT4 v_FLOAT8 v_NUMERIC v_DATE v_TIME v_TIMESTAMP v_TIMESTAMPTZ : Addr) : Value := if (1184 : Int32) = p0 then (.ref v_TIMESTAMPTZ : Value) else if (1114 : Int32) = p0 then (.ref v_TIMESTAMP : Value) else if (1083 : Int32) = p0 then (.ref v_TIME : Value) else if (1082 : Int32) = p0 then (.ref v_DATE : Value) else if (1700 : Int32) = p0 then (.ref v_NUMERIC : Value) else if (701 : Int32) = p0 then (.ref v_FLOAT8 : Value) else if (700 : Int32) = p0 then (.ref v_FLOAT4 : Value) else if (19 : Int32) = p0 then (.ref v_NAME : Value) else if (1042 : Int32) = p0 then (.ref v_BPCHAR : Value) else if (1043 : Int32) = p0 then (.ref v_VARCHAR : Value) else if (25 : Int32) = p0 then (.ref v_TEXT : Value) else if (20 : Int32) = p0 then (.ref v_INT8 : Value) else if (23 : Int32) = p0 then (.ref v_INT4 : Value) else if (21 : Int32) = p0 then (.ref v_INT2 : Value) else if (16 : Int32) = p0 then (.ref v_BOOL : Value) else .null
theorem own_rf_f_of (p0 : Int32) (v_BOOL v_INT2 v_INT4 v_INT8 v_TEXT v_VARCHAR v_BPCHAR v_NAME v_FLOAT4 v_FLOAT8 v_NUMERIC v_DATE v_TIME v_TIMESTAMP v_TIMESTAMPTZ : Addr) : (f_of p0 v_BOOL v_INT2 v_INT4 v_INT8 v_TEXT v_VARCHAR v_BPCHAR v_NAME v_FLOAT4 v_FLOAT8 v_NUMERIC v_DATE v_TIME v_TIMESTAMP v_TIMESTAMPTZ).isRef = true := own_ite_ref rfl (own_ite_ref rfl (own_ite_ref rfl (own_ite_ref rfl (own_ite_ref rfl (own_ite_ref rfl (own_ite_ref rfl (own_ite_ref rfl (own_ite_ref rfl (own_ite_ref rfl (own_ite_ref rfl (own_ite_ref rfl (own_ite_ref rfl (own_ite_ref rfl (own_ite_ref rfl (rfl)))))))))))))))
theorem d2_0 : decode prog_41_method_6_code 0 = .ok (.aconst_null, 1) := by decide +kernel
theorem d2_1 : decode prog_41_method_6_code 1 = .ok (.astore_n 1, 1) := by decide +kernel
theorem pd____Lcom_example_gatedb_gatedb_pgwire_PgType_ : parseMethodDescriptor "()[Lcom/example/gatedb/gatedb/pgwire/PgType;" = some ⟨[], some (.array (.object "com/example/gatedb/gatedb/pgwire/PgType"))⟩ := by decide +kernel
theorem d2_2 : decode prog_41_method_6_code 2 = .ok (.invokestatic 118, 3) := by decide +kernel
theorem d2_5 : decode prog_41_method_6_code 5 = .ok (.astore_n 2, 1) := by decide +kernel
theorem d2_6 : decode prog_41_method_6_code 6 = .ok (.aload_n 2, 1) := by decide +kernel
theorem d2_7 : decode prog_41_method_6_code 7 = .ok (.arraylength, 1) := by decide +kernel
theorem d2_8 : decode prog_41_method_6_code 8 = .ok (.istore_n 3, 1) := by decide +kernel
theorem d2_9 : decode prog_41_method_6_code 9 = .ok (.iconst 0, 1) := by decide +kernel
theorem d2_10 : decode prog_41_method_6_code 10 = .ok (.istore 4, 2) := by decide +kernel
theorem d2_12 : decode prog_41_method_6_code 12 = .ok (.iload 4, 2) := by decide +kernel
theorem d2_14 : decode prog_41_method_6_code 14 = .ok (.iload_n 3, 1) := by decide +kernel
theorem d2_15 : decode prog_41_method_6_code 15 = .ok (.if_icmp .ge 27, 3) := by decide +kernel
theorem d2_18 : decode prog_41_method_6_code 18 = .ok (.aload_n 2, 1) := by decide +kernel
theorem d2_19 : decode prog_41_method_6_code 19 = .ok (.iload 4, 2) := by decide +kernel
theorem d2_21 : decode prog_41_method_6_code 21 = .ok (.aaload, 1) := by decide +kernel
theorem d2_22 : decode prog_41_method_6_code 22 = .ok (.astore 5, 2) := by decide +kernel
theorem d2_24 : decode prog_41_method_6_code 24 = .ok (.aload 5, 2) := by decide +kernel
theorem d2_26 : decode prog_41_method_6_code 26 = .ok (.getfield 68, 3) := by decide +kernel
theorem d2_29 : decode prog_41_method_6_code 29 = .ok (.iload_n 0, 1) := by decide +kernel
theorem d2_30 : decode prog_41_method_6_code 30 = .ok (.if_icmp .ne 6, 3) := by decide +kernel
theorem d2_33 : decode prog_41_method_6_code 33 = .ok (.aload 5, 2) := by decide +kernel
theorem d2_35 : decode prog_41_method_6_code 35 = .ok (.astore_n 1, 1) := by decide +kernel
theorem d2_36 : decode prog_41_method_6_code 36 = .ok (.iinc 4 1, 3) := by decide +kernel
theorem d2_39 : decode prog_41_method_6_code 39 = .ok (.goto (-27), 3) := by decide +kernel
theorem d2_42 : decode prog_41_method_6_code 42 = .ok (.aload_n 1, 1) := by decide +kernel
theorem d2_43 : decode prog_41_method_6_code 43 = .ok (.areturn, 1) := by decide +kernel
theorem ef2 (m : MethodId) (x0 : Int32) : entryFrame m #[(.int x0)] 6 = mkF m 0 #[.val (.int x0), .unset, .unset, .unset, .unset, .unset] [] := by first | (simp [entryFrame, mkF, argsToLocals, Value.category]; done) | rfl
def Q2 (Z : State) (p0 : Int32) (kV : ClassId) (v__VALUES : Addr) (v_BOOL : Addr) (v_INT2 : Addr) (v_INT4 : Addr) (v_INT8 : Addr) (v_TEXT : Addr) (v_VARCHAR : Addr) (v_BPCHAR : Addr) (v_NAME : Addr) (v_FLOAT4 : Addr) (v_FLOAT8 : Addr) (v_NUMERIC : Addr) (v_DATE : Addr) (v_TIME : Addr) (v_TIMESTAMP : Addr) (v_TIMESTAMPTZ : Addr) (h0 : Heap) (n0 : Nat) (v : Option Value) (h : Heap) (L : List Loc) : Prop := v = some (f_of p0 v_BOOL v_INT2 v_INT4 v_INT8 v_TEXT v_VARCHAR v_BPCHAR v_NAME v_FLOAT4 v_FLOAT8 v_NUMERIC v_DATE v_TIME v_TIMESTAMP v_TIMESTAMPTZ) ∧ Fr n0 L ∧ Keep h0 h []
set_option maxRecDepth 65536 in
set_option maxHeartbeats 40000000 in
theorem rm2 (l : Launch) (Z : State) (a0 : Array Value) (hw : ∀ d ∈ tables_1, d.before a0 Z = true) (ws : List Jvm.Cond) (p0 : Int32) (kV : ClassId) (v__VALUES : Addr) (v_BOOL : Addr) (v_INT2 : Addr) (v_INT4 : Addr) (v_INT8 : Addr) (v_TEXT : Addr) (v_VARCHAR : Addr) (v_BPCHAR : Addr) (v_NAME : Addr) (v_FLOAT4 : Addr) (v_FLOAT8 : Addr) (v_NUMERIC : Addr) (v_DATE : Addr) (v_TIME : Addr) (v_TIMESTAMP : Addr) (v_TIMESTAMPTZ : Addr) (h0 : Heap) (n0 : Nat) (Z0 : n0 ≤ h0.size) (Sv__VALUES : Sta Z h0 "com/example/gatedb/gatedb/pgwire/PgType" "$VALUES" "[Lcom/example/gatedb/gatedb/pgwire/PgType;" (.ref v__VALUES)) (Ev__VALUES : Exa Z h0 v__VALUES "[Lcom/example/gatedb/gatedb/pgwire/PgType;") (Sv_BOOL : Sta Z h0 "com/example/gatedb/gatedb/pgwire/PgType" "BOOL" "Lcom/example/gatedb/gatedb/pgwire/PgType;" (.ref v_BOOL)) (Ev_BOOL : Exa Z h0 v_BOOL "com/example/gatedb/gatedb/pgwire/PgType") (Sv_INT2 : Sta Z h0 "com/example/gatedb/gatedb/pgwire/PgType" "INT2" "Lcom/example/gatedb/gatedb/pgwire/PgType;" (.ref v_INT2)) (Ev_INT2 : Exa Z h0 v_INT2 "com/example/gatedb/gatedb/pgwire/PgType") (Sv_INT4 : Sta Z h0 "com/example/gatedb/gatedb/pgwire/PgType" "INT4" "Lcom/example/gatedb/gatedb/pgwire/PgType;" (.ref v_INT4)) (Ev_INT4 : Exa Z h0 v_INT4 "com/example/gatedb/gatedb/pgwire/PgType") (Sv_INT8 : Sta Z h0 "com/example/gatedb/gatedb/pgwire/PgType" "INT8" "Lcom/example/gatedb/gatedb/pgwire/PgType;" (.ref v_INT8)) (Ev_INT8 : Exa Z h0 v_INT8 "com/example/gatedb/gatedb/pgwire/PgType") (Sv_TEXT : Sta Z h0 "com/example/gatedb/gatedb/pgwire/PgType" "TEXT" "Lcom/example/gatedb/gatedb/pgwire/PgType;" (.ref v_TEXT)) (Ev_TEXT : Exa Z h0 v_TEXT "com/example/gatedb/gatedb/pgwire/PgType") (Sv_VARCHAR : Sta Z h0 "com/example/gatedb/gatedb/pgwire/PgType" "VARCHAR" "Lcom/example/gatedb/gatedb/pgwire/PgType;" (.ref v_VARCHAR)) (Ev_VARCHAR : Exa Z h0 v_VARCHAR "com/example/gatedb/gatedb/pgwire/PgType") (Sv_BPCHAR : Sta Z h0 "com/example/gatedb/gatedb/pgwire/PgType" "BPCHAR" "Lcom/example/gatedb/gatedb/pgwire/PgType;" (.ref v_BPCHAR)) (Ev_BPCHAR : Exa Z h0 v_BPCHAR "com/example/gatedb/gatedb/pgwire/PgType") (Sv_NAME : Sta Z h0 "com/example/gatedb/gatedb/pgwire/PgType" "NAME" "Lcom/example/gatedb/gatedb/pgwire/PgType;" (.ref v_NAME)) (Ev_NAME : Exa Z h0 v_NAME "com/example/gatedb/gatedb/pgwire/PgType") (Sv_FLOAT4 : Sta Z h0 "com/example/gatedb/gatedb/pgwire/PgType" "FLOAT4" "Lcom/example/gatedb/gatedb/pgwire/PgType;" (.ref v_FLOAT4)) (Ev_FLOAT4 : Exa Z h0 v_FLOAT4 "com/example/gatedb/gatedb/pgwire/PgType") (Sv_FLOAT8 : Sta Z h0 "com/example/gatedb/gatedb/pgwire/PgType" "FLOAT8" "Lcom/example/gatedb/gatedb/pgwire/PgType;" (.ref v_FLOAT8)) (Ev_FLOAT8 : Exa Z h0 v_FLOAT8 "com/example/gatedb/gatedb/pgwire/PgType") (Sv_NUMERIC : Sta Z h0 "com/example/gatedb/gatedb/pgwire/PgType" "NUMERIC" "Lcom/example/gatedb/gatedb/pgwire/PgType;" (.ref v_NUMERIC)) (Ev_NUMERIC : Exa Z h0 v_NUMERIC "com/example/gatedb/gatedb/pgwire/PgType") (Sv_DATE : Sta Z h0 "com/example/gatedb/gatedb/pgwire/PgType" "DATE" "Lcom/example/gatedb/gatedb/pgwire/PgType;" (.ref v_DATE)) (Ev_DATE : Exa Z h0 v_DATE "com/example/gatedb/gatedb/pgwire/PgType") (Sv_TIME : Sta Z h0 "com/example/gatedb/gatedb/pgwire/PgType" "TIME" "Lcom/example/gatedb/gatedb/pgwire/PgType;" (.ref v_TIME)) (Ev_TIME : Exa Z h0 v_TIME "com/example/gatedb/gatedb/pgwire/PgType") (Sv_TIMESTAMP : Sta Z h0 "com/example/gatedb/gatedb/pgwire/PgType" "TIMESTAMP" "Lcom/example/gatedb/gatedb/pgwire/PgType;" (.ref v_TIMESTAMP)) (Ev_TIMESTAMP : Exa Z h0 v_TIMESTAMP "com/example/gatedb/gatedb/pgwire/PgType") (Sv_TIMESTAMPTZ : Sta Z h0 "com/example/gatedb/gatedb/pgwire/PgType" "TIMESTAMPTZ" "Lcom/example/gatedb/gatedb/pgwire/PgType;" (.ref v_TIMESTAMPTZ)) (Ev_TIMESTAMPTZ : Exa Z h0 v_TIMESTAMPTZ "com/example/gatedb/gatedb/pgwire/PgType") (Fv_BOOL_oid : Fld Z h0 v_BOOL "com/example/gatedb/gatedb/pgwire/PgType" "oid" "I" (.int (16 : Int32))) (Fv_INT2_oid : Fld Z h0 v_INT2 "com/example/gatedb/gatedb/pgwire/PgType" "oid" "I" (.int (21 : Int32))) (Fv_INT4_oid : Fld Z h0 v_INT4 "com/example/gatedb/gatedb/pgwire/PgType" "oid" "I" (.int (23 : Int32))) (Fv_INT8_oid : Fld Z h0 v_INT8 "com/example/gatedb/gatedb/pgwire/PgType" "oid" "I" (.int (20 : Int32))) (Fv_TEXT_oid : Fld Z h0 v_TEXT "com/example/gatedb/gatedb/pgwire/PgType" "oid" "I" (.int (25 : Int32))) (Fv_VARCHAR_oid : Fld Z h0 v_VARCHAR "com/example/gatedb/gatedb/pgwire/PgType" "oid" "I" (.int (1043 : Int32))) (Fv_BPCHAR_oid : Fld Z h0 v_BPCHAR "com/example/gatedb/gatedb/pgwire/PgType" "oid" "I" (.int (1042 : Int32))) (Fv_NAME_oid : Fld Z h0 v_NAME "com/example/gatedb/gatedb/pgwire/PgType" "oid" "I" (.int (19 : Int32))) (Fv_FLOAT4_oid : Fld Z h0 v_FLOAT4 "com/example/gatedb/gatedb/pgwire/PgType" "oid" "I" (.int (700 : Int32))) (Fv_FLOAT8_oid : Fld Z h0 v_FLOAT8 "com/example/gatedb/gatedb/pgwire/PgType" "oid" "I" (.int (701 : Int32))) (Fv_NUMERIC_oid : Fld Z h0 v_NUMERIC "com/example/gatedb/gatedb/pgwire/PgType" "oid" "I" (.int (1700 : Int32))) (Fv_DATE_oid : Fld Z h0 v_DATE "com/example/gatedb/gatedb/pgwire/PgType" "oid" "I" (.int (1082 : Int32))) (Fv_TIME_oid : Fld Z h0 v_TIME "com/example/gatedb/gatedb/pgwire/PgType" "oid" "I" (.int (1083 : Int32))) (Fv_TIMESTAMP_oid : Fld Z h0 v_TIMESTAMP "com/example/gatedb/gatedb/pgwire/PgType" "oid" "I" (.int (1114 : Int32))) (Fv_TIMESTAMPTZ_oid : Fld Z h0 v_TIMESTAMPTZ "com/example/gatedb/gatedb/pgwire/PgType" "oid" "I" (.int (1184 : Int32))) (V0 : Arv Z h0 v__VALUES kV (.object "com/example/gatedb/gatedb/pgwire/PgType") (15 : Int32) [(.ref v_BOOL), (.ref v_INT2), (.ref v_INT4), (.ref v_INT8), (.ref v_TEXT), (.ref v_VARCHAR), (.ref v_BPCHAR), (.ref v_NAME), (.ref v_FLOAT4), (.ref v_FLOAT8), (.ref v_NUMERIC), (.ref v_DATE), (.ref v_TIME), (.ref v_TIMESTAMP), (.ref v_TIMESTAMPTZ)] .null) :
    MetFree l (⟨"com/example/gatedb/gatedb/pgwire/PgType", "ofOid", "(I)Lcom/example/gatedb/gatedb/pgwire/PgType;"⟩ : MethodName) (head1 (Jvm.Cond.code (⟨"com/example/gatedb/gatedb/pgwire/PgType", "ofOid", "(I)Lcom/example/gatedb/gatedb/pgwire/PgType;"⟩ : MethodName) prog_41_method_6_code 6 (some (.object "com/example/gatedb/gatedb/pgwire/PgType")) :: ws) ({ frames := 2, cells := 1, slots := 15, locals := 25 } : Room)) (fun a U => a = #[(.int p0)] ∧ Z.Warmed39 U.vm ∧ U.heap = h0) (fun _ _ _ _ _ => True) (fun _ U o U' => ∃ v L, o = .returned v ∧ Q2 Z p0 kV v__VALUES v_BOOL v_INT2 v_INT4 v_INT8 v_TEXT v_VARCHAR v_BPCHAR v_NAME v_FLOAT4 v_FLOAT8 v_NUMERIC v_DATE v_TIME v_TIMESTAMP v_TIMESTAMPTZ h0 n0 v U'.heap L ∧ FrameEnd U o U' L ({ frames := 2, cells := 1, slots := 15, locals := 25 } : Room).cells ({ frames := 2, cells := 1, slots := 15, locals := 25 } : Room).slots) := by
  refine MetFree.of_bodySF (plainFor_of_name pn_PgType) hisR ?_
  intro p e s m args below meth c s₁ Bd hml0 hP hK
  obtain ⟨rfl, hZ, hh⟩ := hP
  have hx := Bd.exec
  have hby := Bd.bytes
  have hml : c.maxLocals = 6 := hml0
  have hown : s.vm.findClass "com/example/gatedb/gatedb/pgwire/PgType" = some m.cls := findClass_of_methodNamed Bd.named
  have hnm := (name_of_methodNamed Bd.named Bd.method).1
  have X0 : Stand p l e ({ frames := 2, cells := 1, slots := 15, locals := 25 } : Room) s m #[(.int p0)] below meth c s₁ [] 0 0 := Stand.of_body Bd
  have e0 : s₁.heap = h0 := by rw [← hh, Bd.state]; rfl
  have N0 := Fr.nil n0
  have pre0 : ∀ t, Steps p.tables e below (s₁.setTop (mkF m 0 #[.val (.int p0), .unset, .unset, .unset, .unset, .unset] [])) t → Steps p.tables e below (s₁.setTop (entryFrame m #[(.int p0)] 6)) t := fun t k => castTop (ef2 m p0) k
  obtain ⟨_, _, ⟨T33, L33, k33, n33⟩, -, X33, ⟨Lc33, hQ33, l33, y33, z33⟩, st33⟩ := Jvm.LawKit.callS X0 hx (y := (⟨"com/example/gatedb/gatedb/pgwire/PgType", "values", "()[Lcom/example/gatedb/gatedb/pgwire/PgType;"⟩ : MethodName)) hown (mvT hZ (hw _ (List.mem_of_getElem? (i := 9) rfl))) (mvT hZ (hw _ (List.mem_of_getElem? (i := 10) rfl))) (mvT hZ (hw _ (List.mem_of_getElem? (i := 7) rfl))) (mvT hZ (hw _ (List.mem_of_getElem? (i := 11) rfl))) (by decide) (backOf (W := 0) (rm3 l Z a0 hw []  kV v__VALUES v_BOOL v_INT2 v_INT4 v_INT8 v_TEXT v_VARCHAR v_BPCHAR v_NAME v_FLOAT4 v_FLOAT8 v_NUMERIC v_DATE v_TIME v_TIMESTAMP v_TIMESTAMPTZ h0 n0 Z0 Sv__VALUES Ev__VALUES V0) hZ (hw _ (List.mem_of_getElem? (i := 11) rfl)) (hw _ (List.mem_of_getElem? (i := 7) rfl)) (by decide) (by decide)) (g := (mkF m 2 #[.val (.int p0), .val .null, .unset, .unset, .unset, .unset] [])) rfl (by rw [hml]; rfl) (argsL := []) (rest := []) (lenOf pd____Lcom_example_gatedb_gatedb_pgwire_PgType_ rfl) rfl (by show 2 * 0 + _ ≤ _; exact Nat.le_of_eq rfl) (hb hby d2_2) (fun _ _ => ⟨rfl, e0, (by decide : 0 + 1 ≤ _), (by decide : 0 + 15 ≤ _)⟩)
  dsimp only [Pt.U, Pt.locs, Pt.cells, Pt.slots] at X33 l33 y33 z33 st33 hQ33
  subst l33 y33 z33
  obtain ⟨bb_33, rfl, Nq33, Kq33, f33_0, f33_1⟩ := hQ33
  have K34 : Keep h0 T33.heap [] := Kq33
  have N33 := Fr.app N0 Nq33
  have ge_bb_33 : n0 ≤ bb_33 := Nat.le_trans Z0 f33_0
  have sz_bb_33 : h0.size ≤ bb_33 := Nat.le_trans (Nat.le_refl _) f33_0
  obtain ⟨cl35, Ar35, q35, S_35, N_35, H35, G35⟩ := id f33_1
  obtain ⟨cl36, Ar36, q36, S_36, N_36, H36, G36⟩ := id f33_1
  have hin36 : ¬ ((0 : Int32) < 0 ∨ cl36.slots.size ≤ ((0 : Int32)).toNatClampNeg) := inb_of S_36 ⟨by decide, by decide⟩
  have hat36 : cl36.slots[((0 : Int32)).toNatClampNeg]? = some (.ref v_BOOL) := Has.at H36 hin36 (by rfl)
  have c37 : Fld Z T33.heap v_BOOL "com/example/gatedb/gatedb/pgwire/PgType" "oid" "I" (.int (16 : Int32)) := (Fv_BOOL_oid.keep Kq33 List.not_mem_nil)
  obtain ⟨T38, X38, e38, st38⟩ := getF X33 hx hZ hown (host := "") (Or.inl (hw _ (List.mem_of_getElem? (i := 39) rfl))) Via.refl rfl c37 (g := (mkF m 26 #[.val (.int p0), .val .null, .val (.ref bb_33), .val (.int (15 : Int32)), .val (.int (0 : Int32)), .val (.ref v_BOOL)] [(.ref v_BOOL)])) rfl rfl (hb hby d2_26)
  have S39 : ∀ t, Steps p.tables e below (T38.setTop (mkF m 30 #[.val (.int p0), .val .null, .val (.ref bb_33), .val (.int (15 : Int32)), .val (.int (0 : Int32)), .val (.ref v_BOOL)] [(.int p0), (.int (16 : Int32))])) t → Steps p.tables e below (s₁.setTop (entryFrame m #[(.int p0)] 6)) t := by
    intro t kt
    refine pre0 _ ?_
    show Steps p.tables e below (s₁.setTop (mkF m 0 #[.val (.int p0), .unset, .unset, .unset, .unset, .unset] [])) _
    refine XS.aconstNull X0.here hx rfl (hb hby d2_0) ?_
    show Steps p.tables e below (s₁.setTop (mkF m 1 #[.val (.int p0), .unset, .unset, .unset, .unset, .unset] [.null])) _
    refine XS.astoreN X0.here hx rfl (hb hby d2_1) rfl rfl (l' := #[.val (.int p0), .val .null, .unset, .unset, .unset, .unset]) rfl ?_
    show Steps p.tables e below (s₁.setTop (mkF m 2 #[.val (.int p0), .val .null, .unset, .unset, .unset, .unset] [])) _
    refine st33 _ ?_
    show Steps p.tables e below (T33.setTop (mkF m 5 #[.val (.int p0), .val .null, .unset, .unset, .unset, .unset] [(.ref bb_33)])) _
    refine XS.astoreN X33.here hx rfl (hb hby d2_5) rfl rfl (l' := #[.val (.int p0), .val .null, .val (.ref bb_33), .unset, .unset, .unset]) rfl ?_
    show Steps p.tables e below (T33.setTop (mkF m 6 #[.val (.int p0), .val .null, .val (.ref bb_33), .unset, .unset, .unset] [])) _
    refine XS.aloadN X33.here hx rfl (hb hby d2_6) rfl rfl ?_
    show Steps p.tables e below (T33.setTop (mkF m 7 #[.val (.int p0), .val .null, .val (.ref bb_33), .unset, .unset, .unset] [(.ref bb_33)])) _
    refine X33.arraylength hx Ar35.1 (State.isArrayOf_alike hZ.alike Ar35.2.1) (g := (mkF m 7 #[.val (.int p0), .val .null, .val (.ref bb_33), .unset, .unset, .unset] [(.ref bb_33)])) rfl rfl (hb hby d2_7) _ ?_
    rw [len_of S_35 N_35]
    show Steps p.tables e below (T33.setTop (mkF m 8 #[.val (.int p0), .val .null, .val (.ref bb_33), .unset, .unset, .unset] [(.int (15 : Int32))])) _
    refine XS.istoreN X33.here hx rfl (hb hby d2_8) rfl (l' := #[.val (.int p0), .val .null, .val (.ref bb_33), .val (.int (15 : Int32)), .unset, .unset]) rfl ?_
    show Steps p.tables e below (T33.setTop (mkF m 9 #[.val (.int p0), .val .null, .val (.ref bb_33), .val (.int (15 : Int32)), .unset, .unset] [])) _
    refine XS.iconst X33.here hx rfl (hb hby d2_9) ?_
    show Steps p.tables e below (T33.setTop (mkF m 10 #[.val (.int p0), .val .null, .val (.ref bb_33), .val (.int (15 : Int32)), .unset, .unset] [(.int (0 : Int32))])) _
    refine XS.istore X33.here hx rfl (hb hby d2_10) rfl (l' := #[.val (.int p0), .val .null, .val (.ref bb_33), .val (.int (15 : Int32)), .val (.int (0 : Int32)), .unset]) rfl ?_
    show Steps p.tables e below (T33.setTop (mkF m 12 #[.val (.int p0), .val .null, .val (.ref bb_33), .val (.int (15 : Int32)), .val (.int (0 : Int32)), .unset] [])) _
    refine XS.iload X33.here hx rfl (hb hby d2_12) rfl ?_
    show Steps p.tables e below (T33.setTop (mkF m 14 #[.val (.int p0), .val .null, .val (.ref bb_33), .val (.int (15 : Int32)), .val (.int (0 : Int32)), .unset] [(.int (0 : Int32))])) _
    refine XS.iloadN X33.here hx rfl (hb hby d2_14) rfl ?_
    show Steps p.tables e below (T33.setTop (mkF m 15 #[.val (.int p0), .val .null, .val (.ref bb_33), .val (.int (15 : Int32)), .val (.int (0 : Int32)), .unset] [(.int (15 : Int32)), (.int (0 : Int32))])) _
    refine XS.icmpNo X33.here hx rfl (hb hby d2_15) rfl (XT.ii_ge_f (by decide)) ?_
    show Steps p.tables e below (T33.setTop (mkF m 18 #[.val (.int p0), .val .null, .val (.ref bb_33), .val (.int (15 : Int32)), .val (.int (0 : Int32)), .unset] [])) _
    refine XS.aloadN X33.here hx rfl (hb hby d2_18) rfl rfl ?_
    show Steps p.tables e below (T33.setTop (mkF m 19 #[.val (.int p0), .val .null, .val (.ref bb_33), .val (.int (15 : Int32)), .val (.int (0 : Int32)), .unset] [(.ref bb_33)])) _
    refine XS.iload X33.here hx rfl (hb hby d2_19) rfl ?_
    show Steps p.tables e below (T33.setTop (mkF m 21 #[.val (.int p0), .val .null, .val (.ref bb_33), .val (.int (15 : Int32)), .val (.int (0 : Int32)), .unset] [(.int (0 : Int32)), (.ref bb_33)])) _
    refine X33.aaload hx (j := (0 : Int32)) (v := (.ref v_BOOL)) Ar36.1 (State.isArrayOf_alike hZ.alike Ar36.2.1) rfl Ar36.2.2 hin36 hat36 (g := (mkF m 21 #[.val (.int p0), .val .null, .val (.ref bb_33), .val (.int (15 : Int32)), .val (.int (0 : Int32)), .unset] [(.int (0 : Int32)), (.ref bb_33)])) rfl rfl (hb hby d2_21) _ ?_
    show Steps p.tables e below (T33.setTop (mkF m 22 #[.val (.int p0), .val .null, .val (.ref bb_33), .val (.int (15 : Int32)), .val (.int (0 : Int32)), .unset] [(.ref v_BOOL)])) _
    refine XS.astore X33.here hx rfl (hb hby d2_22) rfl rfl (l' := #[.val (.int p0), .val .null, .val (.ref bb_33), .val (.int (15 : Int32)), .val (.int (0 : Int32)), .val (.ref v_BOOL)]) rfl ?_
    show Steps p.tables e below (T33.setTop (mkF m 24 #[.val (.int p0), .val .null, .val (.ref bb_33), .val (.int (15 : Int32)), .val (.int (0 : Int32)), .val (.ref v_BOOL)] [])) _
    refine XS.aload X33.here hx rfl (hb hby d2_24) rfl rfl ?_
    show Steps p.tables e below (T33.setTop (mkF m 26 #[.val (.int p0), .val .null, .val (.ref bb_33), .val (.int (15 : Int32)), .val (.int (0 : Int32)), .val (.ref v_BOOL)] [(.ref v_BOOL)])) _
    refine st38 _ ?_
    show Steps p.tables e below (T38.setTop (mkF m 29 #[.val (.int p0), .val .null, .val (.ref bb_33), .val (.int (15 : Int32)), .val (.int (0 : Int32)), .val (.ref v_BOOL)] [(.int (16 : Int32))])) _
    refine XS.iloadN X38.here hx rfl (hb hby d2_29) rfl ?_
    exact kt
  have S41 : ∀ t, Steps p.tables e below (T38.setTop (mkF m 36 #[.val (.int p0), .val (if (16 : Int32) = p0 then ((.ref v_BOOL) : Value) else .null), .val (.ref bb_33), .val (.int (15 : Int32)), .val (.int (0 : Int32)), .val (.ref v_BOOL)] [])) t → Steps p.tables e below (s₁.setTop (entryFrame m #[(.int p0)] 6)) t := by
    intro t kt
    refine S39 _ ?_
    by_cases hc30_40 : (16 : Int32) = p0
    case pos =>
      rw [(if_pos hc30_40 : (if (16 : Int32) = p0 then ((.ref v_BOOL) : Value) else .null) = (.ref v_BOOL))] at kt
      show Steps p.tables e below (T38.setTop (mkF m 30 #[.val (.int p0), .val .null, .val (.ref bb_33), .val (.int (15 : Int32)), .val (.int (0 : Int32)), .val (.ref v_BOOL)] [(.int p0), (.int (16 : Int32))])) _
      refine XS.icmpNo X38.here hx rfl (hb hby d2_30) rfl (XT.ii_ne_f hc30_40) ?_
      show Steps p.tables e below (T38.setTop (mkF m 33 #[.val (.int p0), .val .null, .val (.ref bb_33), .val (.int (15 : Int32)), .val (.int (0 : Int32)), .val (.ref v_BOOL)] [])) _
      refine XS.aload X38.here hx rfl (hb hby d2_33) rfl rfl ?_
      show Steps p.tables e below (T38.setTop (mkF m 35 #[.val (.int p0), .val .null, .val (.ref bb_33), .val (.int (15 : Int32)), .val (.int (0 : Int32)), .val (.ref v_BOOL)] [(.ref v_BOOL)])) _
      refine XS.astoreN X38.here hx rfl (hb hby d2_35) rfl rfl (l' := #[.val (.int p0), .val (.ref v_BOOL), .val (.ref bb_33), .val (.int (15 : Int32)), .val (.int (0 : Int32)), .val (.ref v_BOOL)]) rfl ?_
      exact kt
    case neg =>
      rw [(if_neg hc30_40 : (if (16 : Int32) = p0 then ((.ref v_BOOL) : Value) else .null) = .null)] at kt
      show Steps p.tables e below (T38.setTop (mkF m 30 #[.val (.int p0), .val .null, .val (.ref bb_33), .val (.int (15 : Int32)), .val (.int (0 : Int32)), .val (.ref v_BOOL)] [(.int p0), (.int (16 : Int32))])) _
      refine XS.icmpYes X38.here hx rfl (pc0 := 30) (pc' := 36) rfl (hb hby d2_30) rfl (XT.ii_ne_t hc30_40) (by decide) (by decide) ?_
      exact kt
  obtain ⟨m1, hd_m1⟩ : ∃ z, z = (if (16 : Int32) = p0 then ((.ref v_BOOL) : Value) else .null) := ⟨_, rfl⟩
  rw [← hd_m1] at S41
  have rf_m1 : m1.isRef = true := by rw [hd_m1]; exact (own_ite_ref rfl rfl)
  obtain ⟨cl42, Ar42, q42, S_42, N_42, H42, G42⟩ := id f33_1
  have hin42 : ¬ ((1 : Int32) < 0 ∨ cl42.slots.size ≤ ((1 : Int32)).toNatClampNeg) := inb_of S_42 ⟨by decide, by decide⟩
  have hat42 : cl42.slots[((1 : Int32)).toNatClampNeg]? = some (.ref v_INT2) := Has.at H42 hin42 (by rfl)
  have c43 : Fld Z T33.heap v_INT2 "com/example/gatedb/gatedb/pgwire/PgType" "oid" "I" (.int (21 : Int32)) := (Fv_INT2_oid.keep Kq33 List.not_mem_nil)
  obtain ⟨T44, X44, e44, st44⟩ := getF X38 hx hZ hown (host := "") (Or.inl (hw _ (List.mem_of_getElem? (i := 39) rfl))) Via.refl e38 c43 (g := (mkF m 26 #[.val (.int p0), .val m1, .val (.ref bb_33), .val (.int (15 : Int32)), .val (.int (1 : Int32)), .val (.ref v_INT2)] [(.ref v_INT2)])) rfl rfl (hb hby d2_26)
  have S45 : ∀ t, Steps p.tables e below (T44.setTop (mkF m 30 #[.val (.int p0), .val m1, .val (.ref bb_33), .val (.int (15 : Int32)), .val (.int (1 : Int32)), .val (.ref v_INT2)] [(.int p0), (.int (21 : Int32))])) t → Steps p.tables e below (s₁.setTop (entryFrame m #[(.int p0)] 6)) t := by
    intro t kt
    refine S41 _ ?_
    show Steps p.tables e below (T38.setTop (mkF m 36 #[.val (.int p0), .val m1, .val (.ref bb_33), .val (.int (15 : Int32)), .val (.int (0 : Int32)), .val (.ref v_BOOL)] [])) _
    refine XS.iinc X38.here hx rfl (hb hby d2_36) rfl (l' := #[.val (.int p0), .val m1, .val (.ref bb_33), .val (.int (15 : Int32)), .val (.int (1 : Int32)), .val (.ref v_BOOL)]) rfl ?_
    show Steps p.tables e below (T38.setTop (mkF m 39 #[.val (.int p0), .val m1, .val (.ref bb_33), .val (.int (15 : Int32)), .val (.int (1 : Int32)), .val (.ref v_BOOL)] [])) _
    refine XS.goto X38.here hx rfl (pc0 := 39) (pc' := 12) rfl (hb hby d2_39) (by decide) (by decide) ?_
    show Steps p.tables e below (T38.setTop (mkF m 12 #[.val (.int p0), .val m1, .val (.ref bb_33), .val (.int (15 : Int32)), .val (.int (1 : Int32)), .val (.ref v_BOOL)] [])) _
    refine XS.iload X38.here hx rfl (hb hby d2_12) rfl ?_
    show Steps p.tables e below (T38.setTop (mkF m 14 #[.val (.int p0), .val m1, .val (.ref bb_33), .val (.int (15 : Int32)), .val (.int (1 : Int32)), .val (.ref v_BOOL)] [(.int (1 : Int32))])) _
    refine XS.iloadN X38.here hx rfl (hb hby d2_14) rfl ?_
    show Steps p.tables e below (T38.setTop (mkF m 15 #[.val (.int p0), .val m1, .val (.ref bb_33), .val (.int (15 : Int32)), .val (.int (1 : Int32)), .val (.ref v_BOOL)] [(.int (15 : Int32)), (.int (1 : Int32))])) _
    refine XS.icmpNo X38.here hx rfl (hb hby d2_15) rfl (XT.ii_ge_f (by decide)) ?_
    show Steps p.tables e below (T38.setTop (mkF m 18 #[.val (.int p0), .val m1, .val (.ref bb_33), .val (.int (15 : Int32)), .val (.int (1 : Int32)), .val (.ref v_BOOL)] [])) _
    refine XS.aloadN X38.here hx rfl (hb hby d2_18) rfl rfl ?_
    show Steps p.tables e below (T38.setTop (mkF m 19 #[.val (.int p0), .val m1, .val (.ref bb_33), .val (.int (15 : Int32)), .val (.int (1 : Int32)), .val (.ref v_BOOL)] [(.ref bb_33)])) _
    refine XS.iload X38.here hx rfl (hb hby d2_19) rfl ?_
    show Steps p.tables e below (T38.setTop (mkF m 21 #[.val (.int p0), .val m1, .val (.ref bb_33), .val (.int (15 : Int32)), .val (.int (1 : Int32)), .val (.ref v_BOOL)] [(.int (1 : Int32)), (.ref bb_33)])) _
    refine X38.aaload hx (j := (1 : Int32)) (v := (.ref v_INT2)) (by rw [e38]; exact Ar42.1) (State.isArrayOf_alike hZ.alike Ar42.2.1) rfl Ar42.2.2 hin42 hat42 (g := (mkF m 21 #[.val (.int p0), .val m1, .val (.ref bb_33), .val (.int (15 : Int32)), .val (.int (1 : Int32)), .val (.ref v_BOOL)] [(.int (1 : Int32)), (.ref bb_33)])) rfl rfl (hb hby d2_21) _ ?_
    show Steps p.tables e below (T38.setTop (mkF m 22 #[.val (.int p0), .val m1, .val (.ref bb_33), .val (.int (15 : Int32)), .val (.int (1 : Int32)), .val (.ref v_BOOL)] [(.ref v_INT2)])) _
    refine XS.astore X38.here hx rfl (hb hby d2_22) rfl rfl (l' := #[.val (.int p0), .val m1, .val (.ref bb_33), .val (.int (15 : Int32)), .val (.int (1 : Int32)), .val (.ref v_INT2)]) rfl ?_
    show Steps p.tables e below (T38.setTop (mkF m 24 #[.val (.int p0), .val m1, .val (.ref bb_33), .val (.int (15 : Int32)), .val (.int (1 : Int32)), .val (.ref v_INT2)] [])) _
    refine XS.aload X38.here hx rfl (hb hby d2_24) rfl rfl ?_
    show Steps p.tables e below (T38.setTop (mkF m 26 #[.val (.int p0), .val m1, .val (.ref bb_33), .val (.int (15 : Int32)), .val (.int (1 : Int32)), .val (.ref v_INT2)] [(.ref v_INT2)])) _
    refine st44 _ ?_
    show Steps p.tables e below (T44.setTop (mkF m 29 #[.val (.int p0), .val m1, .val (.ref bb_33), .val (.int (15 : Int32)), .val (.int (1 : Int32)), .val (.ref v_INT2)] [(.int (21 : Int32))])) _
    refine XS.iloadN X44.here hx rfl (hb hby d2_29) rfl ?_
    exact kt
  have S47 : ∀ t, Steps p.tables e below (T44.setTop (mkF m 36 #[.val (.int p0), .val (if (21 : Int32) = p0 then ((.ref v_INT2) : Value) else m1), .val (.ref bb_33), .val (.int (15 : Int32)), .val (.int (1 : Int32)), .val (.ref v_INT2)] [])) t → Steps p.tables e below (s₁.setTop (entryFrame m #[(.int p0)] 6)) t := by
    intro t kt
    refine S45 _ ?_
    by_cases hc30_46 : (21 : Int32) = p0
    case pos =>
      rw [(if_pos hc30_46 : (if (21 : Int32) = p0 then ((.ref v_INT2) : Value) else m1) = (.ref v_INT2))] at kt
      show Steps p.tables e below (T44.setTop (mkF m 30 #[.val (.int p0), .val m1, .val (.ref bb_33), .val (.int (15 : Int32)), .val (.int (1 : Int32)), .val (.ref v_INT2)] [(.int p0), (.int (21 : Int32))])) _
      refine XS.icmpNo X44.here hx rfl (hb hby d2_30) rfl (XT.ii_ne_f hc30_46) ?_
      show Steps p.tables e below (T44.setTop (mkF m 33 #[.val (.int p0), .val m1, .val (.ref bb_33), .val (.int (15 : Int32)), .val (.int (1 : Int32)), .val (.ref v_INT2)] [])) _
      refine XS.aload X44.here hx rfl (hb hby d2_33) rfl rfl ?_
      show Steps p.tables e below (T44.setTop (mkF m 35 #[.val (.int p0), .val m1, .val (.ref bb_33), .val (.int (15 : Int32)), .val (.int (1 : Int32)), .val (.ref v_INT2)] [(.ref v_INT2)])) _
      refine XS.astoreN X44.here hx rfl (hb hby d2_35) rfl rfl (l' := #[.val (.int p0), .val (.ref v_INT2), .val (.ref bb_33), .val (.int (15 : Int32)), .val (.int (1 : Int32)), .val (.ref v_INT2)]) (XS.store1 rfl (Or.inr ⟨_, rfl, (XT.cat1 rf_m1)⟩) rfl) ?_
      exact kt
    case neg =>
      rw [(if_neg hc30_46 : (if (21 : Int32) = p0 then ((.ref v_INT2) : Value) else m1) = m1)] at kt
      show Steps p.tables e below (T44.setTop (mkF m 30 #[.val (.int p0), .val m1, .val (.ref bb_33), .val (.int (15 : Int32)), .val (.int (1 : Int32)), .val (.ref v_INT2)] [(.int p0), (.int (21 : Int32))])) _
      refine XS.icmpYes X44.here hx rfl (pc0 := 30) (pc' := 36) rfl (hb hby d2_30) rfl (XT.ii_ne_t hc30_46) (by decide) (by decide) ?_
      exact kt
  obtain ⟨m2, hd_m2⟩ : ∃ z, z = (if (21 : Int32) = p0 then ((.ref v_INT2) : Value) else m1) := ⟨_, rfl⟩
  rw [← hd_m2] at S47
  have rf_m2 : m2.isRef = true := by rw [hd_m2]; exact (own_ite_ref rfl rf_m1)
  obtain ⟨cl48, Ar48, q48, S_48, N_48, H48, G48⟩ := id f33_1
  have hin48 : ¬ ((2 : Int32) < 0 ∨ cl48.slots.size ≤ ((2 : Int32)).toNatClampNeg) := inb_of S_48 ⟨by decide, by decide⟩
  have hat48 : cl48.slots[((2 : Int32)).toNatClampNeg]? = some (.ref v_INT4) := Has.at H48 hin48 (by rfl)
  have c49 : Fld Z T33.heap v_INT4 "com/example/gatedb/gatedb/pgwire/PgType" "oid" "I" (.int (23 : Int32)) := (Fv_INT4_oid.keep Kq33 List.not_mem_nil)
  obtain ⟨T50, X50, e50, st50⟩ := getF X44 hx hZ hown (host := "") (Or.inl (hw _ (List.mem_of_getElem? (i := 39) rfl))) Via.refl e44 c49 (g := (mkF m 26 #[.val (.int p0), .val m2, .val (.ref bb_33), .val (.int (15 : Int32)), .val (.int (2 : Int32)), .val (.ref v_INT4)] [(.ref v_INT4)])) rfl rfl (hb hby d2_26)
  have S51 : ∀ t, Steps p.tables e below (T50.setTop (mkF m 30 #[.val (.int p0), .val m2, .val (.ref bb_33), .val (.int (15 : Int32)), .val (.int (2 : Int32)), .val (.ref v_INT4)] [(.int p0), (.int (23 : Int32))])) t → Steps p.tables e below (s₁.setTop (entryFrame m #[(.int p0)] 6)) t := by
    intro t kt
    refine S47 _ ?_
    show Steps p.tables e below (T44.setTop (mkF m 36 #[.val (.int p0), .val m2, .val (.ref bb_33), .val (.int (15 : Int32)), .val (.int (1 : Int32)), .val (.ref v_INT2)] [])) _
    refine XS.iinc X44.here hx rfl (hb hby d2_36) rfl (l' := #[.val (.int p0), .val m2, .val (.ref bb_33), .val (.int (15 : Int32)), .val (.int (2 : Int32)), .val (.ref v_INT2)]) rfl ?_
    show Steps p.tables e below (T44.setTop (mkF m 39 #[.val (.int p0), .val m2, .val (.ref bb_33), .val (.int (15 : Int32)), .val (.int (2 : Int32)), .val (.ref v_INT2)] [])) _
    refine XS.goto X44.here hx rfl (pc0 := 39) (pc' := 12) rfl (hb hby d2_39) (by decide) (by decide) ?_
    show Steps p.tables e below (T44.setTop (mkF m 12 #[.val (.int p0), .val m2, .val (.ref bb_33), .val (.int (15 : Int32)), .val (.int (2 : Int32)), .val (.ref v_INT2)] [])) _
    refine XS.iload X44.here hx rfl (hb hby d2_12) rfl ?_
    show Steps p.tables e below (T44.setTop (mkF m 14 #[.val (.int p0), .val m2, .val (.ref bb_33), .val (.int (15 : Int32)), .val (.int (2 : Int32)), .val (.ref v_INT2)] [(.int (2 : Int32))])) _
    refine XS.iloadN X44.here hx rfl (hb hby d2_14) rfl ?_
    show Steps p.tables e below (T44.setTop (mkF m 15 #[.val (.int p0), .val m2, .val (.ref bb_33), .val (.int (15 : Int32)), .val (.int (2 : Int32)), .val (.ref v_INT2)] [(.int (15 : Int32)), (.int (2 : Int32))])) _
    refine XS.icmpNo X44.here hx rfl (hb hby d2_15) rfl (XT.ii_ge_f (by decide)) ?_
    show Steps p.tables e below (T44.setTop (mkF m 18 #[.val (.int p0), .val m2, .val (.ref bb_33), .val (.int (15 : Int32)), .val (.int (2 : Int32)), .val (.ref v_INT2)] [])) _
    refine XS.aloadN X44.here hx rfl (hb hby d2_18) rfl rfl ?_
    show Steps p.tables e below (T44.setTop (mkF m 19 #[.val (.int p0), .val m2, .val (.ref bb_33), .val (.int (15 : Int32)), .val (.int (2 : Int32)), .val (.ref v_INT2)] [(.ref bb_33)])) _
    refine XS.iload X44.here hx rfl (hb hby d2_19) rfl ?_
    show Steps p.tables e below (T44.setTop (mkF m 21 #[.val (.int p0), .val m2, .val (.ref bb_33), .val (.int (15 : Int32)), .val (.int (2 : Int32)), .val (.ref v_INT2)] [(.int (2 : Int32)), (.ref bb_33)])) _
    refine X44.aaload hx (j := (2 : Int32)) (v := (.ref v_INT4)) (by rw [e44]; exact Ar48.1) (State.isArrayOf_alike hZ.alike Ar48.2.1) rfl Ar48.2.2 hin48 hat48 (g := (mkF m 21 #[.val (.int p0), .val m2, .val (.ref bb_33), .val (.int (15 : Int32)), .val (.int (2 : Int32)), .val (.ref v_INT2)] [(.int (2 : Int32)), (.ref bb_33)])) rfl rfl (hb hby d2_21) _ ?_
    show Steps p.tables e below (T44.setTop (mkF m 22 #[.val (.int p0), .val m2, .val (.ref bb_33), .val (.int (15 : Int32)), .val (.int (2 : Int32)), .val (.ref v_INT2)] [(.ref v_INT4)])) _
    refine XS.astore X44.here hx rfl (hb hby d2_22) rfl rfl (l' := #[.val (.int p0), .val m2, .val (.ref bb_33), .val (.int (15 : Int32)), .val (.int (2 : Int32)), .val (.ref v_INT4)]) rfl ?_
    show Steps p.tables e below (T44.setTop (mkF m 24 #[.val (.int p0), .val m2, .val (.ref bb_33), .val (.int (15 : Int32)), .val (.int (2 : Int32)), .val (.ref v_INT4)] [])) _
    refine XS.aload X44.here hx rfl (hb hby d2_24) rfl rfl ?_
    show Steps p.tables e below (T44.setTop (mkF m 26 #[.val (.int p0), .val m2, .val (.ref bb_33), .val (.int (15 : Int32)), .val (.int (2 : Int32)), .val (.ref v_INT4)] [(.ref v_INT4)])) _
    refine st50 _ ?_
    show Steps p.tables e below (T50.setTop (mkF m 29 #[.val (.int p0), .val m2, .val (.ref bb_33), .val (.int (15 : Int32)), .val (.int (2 : Int32)), .val (.ref v_INT4)] [(.int (23 : Int32))])) _
    refine XS.iloadN X50.here hx rfl (hb hby d2_29) rfl ?_
    exact kt
  have S53 : ∀ t, Steps p.tables e below (T50.setTop (mkF m 36 #[.val (.int p0), .val (if (23 : Int32) = p0 then ((.ref v_INT4) : Value) else m2), .val (.ref bb_33), .val (.int (15 : Int32)), .val (.int (2 : Int32)), .val (.ref v_INT4)] [])) t → Steps p.tables e below (s₁.setTop (entryFrame m #[(.int p0)] 6)) t := by
    intro t kt
    refine S51 _ ?_
    by_cases hc30_52 : (23 : Int32) = p0
    case pos =>
      rw [(if_pos hc30_52 : (if (23 : Int32) = p0 then ((.ref v_INT4) : Value) else m2) = (.ref v_INT4))] at kt
      show Steps p.tables e below (T50.setTop (mkF m 30 #[.val (.int p0), .val m2, .val (.ref bb_33), .val (.int (15 : Int32)), .val (.int (2 : Int32)), .val (.ref v_INT4)] [(.int p0), (.int (23 : Int32))])) _
      refine XS.icmpNo X50.here hx rfl (hb hby d2_30) rfl (XT.ii_ne_f hc30_52) ?_
      show Steps p.tables e below (T50.setTop (mkF m 33 #[.val (.int p0), .val m2, .val (.ref bb_33), .val (.int (15 : Int32)), .val (.int (2 : Int32)), .val (.ref v_INT4)] [])) _
      refine XS.aload X50.here hx rfl (hb hby d2_33) rfl rfl ?_
      show Steps p.tables e below (T50.setTop (mkF m 35 #[.val (.int p0), .val m2, .val (.ref bb_33), .val (.int (15 : Int32)), .val (.int (2 : Int32)), .val (.ref v_INT4)] [(.ref v_INT4)])) _
      refine XS.astoreN X50.here hx rfl (hb hby d2_35) rfl rfl (l' := #[.val (.int p0), .val (.ref v_INT4), .val (.ref bb_33), .val (.int (15 : Int32)), .val (.int (2 : Int32)), .val (.ref v_INT4)]) (XS.store1 rfl (Or.inr ⟨_, rfl, (XT.cat1 rf_m2)⟩) rfl) ?_
      exact kt
    case neg =>
      rw [(if_neg hc30_52 : (if (23 : Int32) = p0 then ((.ref v_INT4) : Value) else m2) = m2)] at kt
      show Steps p.tables e below (T50.setTop (mkF m 30 #[.val (.int p0), .val m2, .val (.ref bb_33), .val (.int (15 : Int32)), .val (.int (2 : Int32)), .val (.ref v_INT4)] [(.int p0), (.int (23 : Int32))])) _
      refine XS.icmpYes X50.here hx rfl (pc0 := 30) (pc' := 36) rfl (hb hby d2_30) rfl (XT.ii_ne_t hc30_52) (by decide) (by decide) ?_
      exact kt
  obtain ⟨m3, hd_m3⟩ : ∃ z, z = (if (23 : Int32) = p0 then ((.ref v_INT4) : Value) else m2) := ⟨_, rfl⟩
  rw [← hd_m3] at S53
  have rf_m3 : m3.isRef = true := by rw [hd_m3]; exact (own_ite_ref rfl rf_m2)
  obtain ⟨cl54, Ar54, q54, S_54, N_54, H54, G54⟩ := id f33_1
  have hin54 : ¬ ((3 : Int32) < 0 ∨ cl54.slots.size ≤ ((3 : Int32)).toNatClampNeg) := inb_of S_54 ⟨by decide, by decide⟩
  have hat54 : cl54.slots[((3 : Int32)).toNatClampNeg]? = some (.ref v_INT8) := Has.at H54 hin54 (by rfl)
  have c55 : Fld Z T33.heap v_INT8 "com/example/gatedb/gatedb/pgwire/PgType" "oid" "I" (.int (20 : Int32)) := (Fv_INT8_oid.keep Kq33 List.not_mem_nil)
  obtain ⟨T56, X56, e56, st56⟩ := getF X50 hx hZ hown (host := "") (Or.inl (hw _ (List.mem_of_getElem? (i := 39) rfl))) Via.refl e50 c55 (g := (mkF m 26 #[.val (.int p0), .val m3, .val (.ref bb_33), .val (.int (15 : Int32)), .val (.int (3 : Int32)), .val (.ref v_INT8)] [(.ref v_INT8)])) rfl rfl (hb hby d2_26)
  have S57 : ∀ t, Steps p.tables e below (T56.setTop (mkF m 30 #[.val (.int p0), .val m3, .val (.ref bb_33), .val (.int (15 : Int32)), .val (.int (3 : Int32)), .val (.ref v_INT8)] [(.int p0), (.int (20 : Int32))])) t → Steps p.tables e below (s₁.setTop (entryFrame m #[(.int p0)] 6)) t := by
    intro t kt
    refine S53 _ ?_
    show Steps p.tables e below (T50.setTop (mkF m 36 #[.val (.int p0), .val m3, .val (.ref bb_33), .val (.int (15 : Int32)), .val (.int (2 : Int32)), .val (.ref v_INT4)] [])) _
    refine XS.iinc X50.here hx rfl (hb hby d2_36) rfl (l' := #[.val (.int p0), .val m3, .val (.ref bb_33), .val (.int (15 : Int32)), .val (.int (3 : Int32)), .val (.ref v_INT4)]) rfl ?_
    show Steps p.tables e below (T50.setTop (mkF m 39 #[.val (.int p0), .val m3, .val (.ref bb_33), .val (.int (15 : Int32)), .val (.int (3 : Int32)), .val (.ref v_INT4)] [])) _
    refine XS.goto X50.here hx rfl (pc0 := 39) (pc' := 12) rfl (hb hby d2_39) (by decide) (by decide) ?_
    show Steps p.tables e below (T50.setTop (mkF m 12 #[.val (.int p0), .val m3, .val (.ref bb_33), .val (.int (15 : Int32)), .val (.int (3 : Int32)), .val (.ref v_INT4)] [])) _
    refine XS.iload X50.here hx rfl (hb hby d2_12) rfl ?_
    show Steps p.tables e below (T50.setTop (mkF m 14 #[.val (.int p0), .val m3, .val (.ref bb_33), .val (.int (15 : Int32)), .val (.int (3 : Int32)), .val (.ref v_INT4)] [(.int (3 : Int32))])) _
    refine XS.iloadN X50.here hx rfl (hb hby d2_14) rfl ?_
    show Steps p.tables e below (T50.setTop (mkF m 15 #[.val (.int p0), .val m3, .val (.ref bb_33), .val (.int (15 : Int32)), .val (.int (3 : Int32)), .val (.ref v_INT4)] [(.int (15 : Int32)), (.int (3 : Int32))])) _
    refine XS.icmpNo X50.here hx rfl (hb hby d2_15) rfl (XT.ii_ge_f (by decide)) ?_
    show Steps p.tables e below (T50.setTop (mkF m 18 #[.val (.int p0), .val m3, .val (.ref bb_33), .val (.int (15 : Int32)), .val (.int (3 : Int32)), .val (.ref v_INT4)] [])) _
    refine XS.aloadN X50.here hx rfl (hb hby d2_18) rfl rfl ?_
    show Steps p.tables e below (T50.setTop (mkF m 19 #[.val (.int p0), .val m3, .val (.ref bb_33), .val (.int (15 : Int32)), .val (.int (3 : Int32)), .val (.ref v_INT4)] [(.ref bb_33)])) _
    refine XS.iload X50.here hx rfl (hb hby d2_19) rfl ?_
    show Steps p.tables e below (T50.setTop (mkF m 21 #[.val (.int p0), .val m3, .val (.ref bb_33), .val (.int (15 : Int32)), .val (.int (3 : Int32)), .val (.ref v_INT4)] [(.int (3 : Int32)), (.ref bb_33)])) _
    refine X50.aaload hx (j := (3 : Int32)) (v := (.ref v_INT8)) (by rw [e50]; exact Ar54.1) (State.isArrayOf_alike hZ.alike Ar54.2.1) rfl Ar54.2.2 hin54 hat54 (g := (mkF m 21 #[.val (.int p0), .val m3, .val (.ref bb_33), .val (.int (15 : Int32)), .val (.int (3 : Int32)), .val (.ref v_INT4)] [(.int (3 : Int32)), (.ref bb_33)])) rfl rfl (hb hby d2_21) _ ?_
    show Steps p.tables e below (T50.setTop (mkF m 22 #[.val (.int p0), .val m3, .val (.ref bb_33), .val (.int (15 : Int32)), .val (.int (3 : Int32)), .val (.ref v_INT4)] [(.ref v_INT8)])) _
    refine XS.astore X50.here hx rfl (hb hby d2_22) rfl rfl (l' := #[.val (.int p0), .val m3, .val (.ref bb_33), .val (.int (15 : Int32)), .val (.int (3 : Int32)), .val (.ref v_INT8)]) rfl ?_
    show Steps p.tables e below (T50.setTop (mkF m 24 #[.val (.int p0), .val m3, .val (.ref bb_33), .val (.int (15 : Int32)), .val (.int (3 : Int32)), .val (.ref v_INT8)] [])) _
    refine XS.aload X50.here hx rfl (hb hby d2_24) rfl rfl ?_
    show Steps p.tables e below (T50.setTop (mkF m 26 #[.val (.int p0), .val m3, .val (.ref bb_33), .val (.int (15 : Int32)), .val (.int (3 : Int32)), .val (.ref v_INT8)] [(.ref v_INT8)])) _
    refine st56 _ ?_
    show Steps p.tables e below (T56.setTop (mkF m 29 #[.val (.int p0), .val m3, .val (.ref bb_33), .val (.int (15 : Int32)), .val (.int (3 : Int32)), .val (.ref v_INT8)] [(.int (20 : Int32))])) _
    refine XS.iloadN X56.here hx rfl (hb hby d2_29) rfl ?_
    exact kt
  have S59 : ∀ t, Steps p.tables e below (T56.setTop (mkF m 36 #[.val (.int p0), .val (if (20 : Int32) = p0 then ((.ref v_INT8) : Value) else m3), .val (.ref bb_33), .val (.int (15 : Int32)), .val (.int (3 : Int32)), .val (.ref v_INT8)] [])) t → Steps p.tables e below (s₁.setTop (entryFrame m #[(.int p0)] 6)) t := by
    intro t kt
    refine S57 _ ?_
    by_cases hc30_58 : (20 : Int32) = p0
    case pos =>
      rw [(if_pos hc30_58 : (if (20 : Int32) = p0 then ((.ref v_INT8) : Value) else m3) = (.ref v_INT8))] at kt
      show Steps p.tables e below (T56.setTop (mkF m 30 #[.val (.int p0), .val m3, .val (.ref bb_33), .val (.int (15 : Int32)), .val (.int (3 : Int32)), .val (.ref v_INT8)] [(.int p0), (.int (20 : Int32))])) _
      refine XS.icmpNo X56.here hx rfl (hb hby d2_30) rfl (XT.ii_ne_f hc30_58) ?_
      show Steps p.tables e below (T56.setTop (mkF m 33 #[.val (.int p0), .val m3, .val (.ref bb_33), .val (.int (15 : Int32)), .val (.int (3 : Int32)), .val (.ref v_INT8)] [])) _
      refine XS.aload X56.here hx rfl (hb hby d2_33) rfl rfl ?_
      show Steps p.tables e below (T56.setTop (mkF m 35 #[.val (.int p0), .val m3, .val (.ref bb_33), .val (.int (15 : Int32)), .val (.int (3 : Int32)), .val (.ref v_INT8)] [(.ref v_INT8)])) _
      refine XS.astoreN X56.here hx rfl (hb hby d2_35) rfl rfl (l' := #[.val (.int p0), .val (.ref v_INT8), .val (.ref bb_33), .val (.int (15 : Int32)), .val (.int (3 : Int32)), .val (.ref v_INT8)]) (XS.store1 rfl (Or.inr ⟨_, rfl, (XT.cat1 rf_m3)⟩) rfl) ?_
      exact kt
    case neg =>
      rw [(if_neg hc30_58 : (if (20 : Int32) = p0 then ((.ref v_INT8) : Value) else m3) = m3)] at kt
      show Steps p.tables e below (T56.setTop (mkF m 30 #[.val (.int p0), .val m3, .val (.ref bb_33), .val (.int (15 : Int32)), .val (.int (3 : Int32)), .val (.ref v_INT8)] [(.int p0), (.int (20 : Int32))])) _
      refine XS.icmpYes X56.here hx rfl (pc0 := 30) (pc' := 36) rfl (hb hby d2_30) rfl (XT.ii_ne_t hc30_58) (by decide) (by decide) ?_
      exact kt
  obtain ⟨m4, hd_m4⟩ : ∃ z, z = (if (20 : Int32) = p0 then ((.ref v_INT8) : Value) else m3) := ⟨_, rfl⟩
  rw [← hd_m4] at S59
  have rf_m4 : m4.isRef = true := by rw [hd_m4]; exact (own_ite_ref rfl rf_m3)
  obtain ⟨cl60, Ar60, q60, S_60, N_60, H60, G60⟩ := id f33_1
  have hin60 : ¬ ((4 : Int32) < 0 ∨ cl60.slots.size ≤ ((4 : Int32)).toNatClampNeg) := inb_of S_60 ⟨by decide, by decide⟩
  have hat60 : cl60.slots[((4 : Int32)).toNatClampNeg]? = some (.ref v_TEXT) := Has.at H60 hin60 (by rfl)
  have c61 : Fld Z T33.heap v_TEXT "com/example/gatedb/gatedb/pgwire/PgType" "oid" "I" (.int (25 : Int32)) := (Fv_TEXT_oid.keep Kq33 List.not_mem_nil)
  obtain ⟨T62, X62, e62, st62⟩ := getF X56 hx hZ hown (host := "") (Or.inl (hw _ (List.mem_of_getElem? (i := 39) rfl))) Via.refl e56 c61 (g := (mkF m 26 #[.val (.int p0), .val m4, .val (.ref bb_33), .val (.int (15 : Int32)), .val (.int (4 : Int32)), .val (.ref v_TEXT)] [(.ref v_TEXT)])) rfl rfl (hb hby d2_26)
  have S63 : ∀ t, Steps p.tables e below (T62.setTop (mkF m 30 #[.val (.int p0), .val m4, .val (.ref bb_33), .val (.int (15 : Int32)), .val (.int (4 : Int32)), .val (.ref v_TEXT)] [(.int p0), (.int (25 : Int32))])) t → Steps p.tables e below (s₁.setTop (entryFrame m #[(.int p0)] 6)) t := by
    intro t kt
    refine S59 _ ?_
    show Steps p.tables e below (T56.setTop (mkF m 36 #[.val (.int p0), .val m4, .val (.ref bb_33), .val (.int (15 : Int32)), .val (.int (3 : Int32)), .val (.ref v_INT8)] [])) _
    refine XS.iinc X56.here hx rfl (hb hby d2_36) rfl (l' := #[.val (.int p0), .val m4, .val (.ref bb_33), .val (.int (15 : Int32)), .val (.int (4 : Int32)), .val (.ref v_INT8)]) rfl ?_
    show Steps p.tables e below (T56.setTop (mkF m 39 #[.val (.int p0), .val m4, .val (.ref bb_33), .val (.int (15 : Int32)), .val (.int (4 : Int32)), .val (.ref v_INT8)] [])) _
    refine XS.goto X56.here hx rfl (pc0 := 39) (pc' := 12) rfl (hb hby d2_39) (by decide) (by decide) ?_
    show Steps p.tables e below (T56.setTop (mkF m 12 #[.val (.int p0), .val m4, .val (.ref bb_33), .val (.int (15 : Int32)), .val (.int (4 : Int32)), .val (.ref v_INT8)] [])) _
    refine XS.iload X56.here hx rfl (hb hby d2_12) rfl ?_
    show Steps p.tables e below (T56.setTop (mkF m 14 #[.val (.int p0), .val m4, .val (.ref bb_33), .val (.int (15 : Int32)), .val (.int (4 : Int32)), .val (.ref v_INT8)] [(.int (4 : Int32))])) _
    refine XS.iloadN X56.here hx rfl (hb hby d2_14) rfl ?_
    show Steps p.tables e below (T56.setTop (mkF m 15 #[.val (.int p0), .val m4, .val (.ref bb_33), .val (.int (15 : Int32)), .val (.int (4 : Int32)), .val (.ref v_INT8)] [(.int (15 : Int32)), (.int (4 : Int32))])) _
    refine XS.icmpNo X56.here hx rfl (hb hby d2_15) rfl (XT.ii_ge_f (by decide)) ?_
    show Steps p.tables e below (T56.setTop (mkF m 18 #[.val (.int p0), .val m4, .val (.ref bb_33), .val (.int (15 : Int32)), .val (.int (4 : Int32)), .val (.ref v_INT8)] [])) _
    refine XS.aloadN X56.here hx rfl (hb hby d2_18) rfl rfl ?_
    show Steps p.tables e below (T56.setTop (mkF m 19 #[.val (.int p0), .val m4, .val (.ref bb_33), .val (.int (15 : Int32)), .val (.int (4 : Int32)), .val (.ref v_INT8)] [(.ref bb_33)])) _
    refine XS.iload X56.here hx rfl (hb hby d2_19) rfl ?_
    show Steps p.tables e below (T56.setTop (mkF m 21 #[.val (.int p0), .val m4, .val (.ref bb_33), .val (.int (15 : Int32)), .val (.int (4 : Int32)), .val (.ref v_INT8)] [(.int (4 : Int32)), (.ref bb_33)])) _
    refine X56.aaload hx (j := (4 : Int32)) (v := (.ref v_TEXT)) (by rw [e56]; exact Ar60.1) (State.isArrayOf_alike hZ.alike Ar60.2.1) rfl Ar60.2.2 hin60 hat60 (g := (mkF m 21 #[.val (.int p0), .val m4, .val (.ref bb_33), .val (.int (15 : Int32)), .val (.int (4 : Int32)), .val (.ref v_INT8)] [(.int (4 : Int32)), (.ref bb_33)])) rfl rfl (hb hby d2_21) _ ?_
    show Steps p.tables e below (T56.setTop (mkF m 22 #[.val (.int p0), .val m4, .val (.ref bb_33), .val (.int (15 : Int32)), .val (.int (4 : Int32)), .val (.ref v_INT8)] [(.ref v_TEXT)])) _
    refine XS.astore X56.here hx rfl (hb hby d2_22) rfl rfl (l' := #[.val (.int p0), .val m4, .val (.ref bb_33), .val (.int (15 : Int32)), .val (.int (4 : Int32)), .val (.ref v_TEXT)]) rfl ?_
    show Steps p.tables e below (T56.setTop (mkF m 24 #[.val (.int p0), .val m4, .val (.ref bb_33), .val (.int (15 : Int32)), .val (.int (4 : Int32)), .val (.ref v_TEXT)] [])) _
    refine XS.aload X56.here hx rfl (hb hby d2_24) rfl rfl ?_
    show Steps p.tables e below (T56.setTop (mkF m 26 #[.val (.int p0), .val m4, .val (.ref bb_33), .val (.int (15 : Int32)), .val (.int (4 : Int32)), .val (.ref v_TEXT)] [(.ref v_TEXT)])) _
    refine st62 _ ?_
    show Steps p.tables e below (T62.setTop (mkF m 29 #[.val (.int p0), .val m4, .val (.ref bb_33), .val (.int (15 : Int32)), .val (.int (4 : Int32)), .val (.ref v_TEXT)] [(.int (25 : Int32))])) _
    refine XS.iloadN X62.here hx rfl (hb hby d2_29) rfl ?_
    exact kt
  have S65 : ∀ t, Steps p.tables e below (T62.setTop (mkF m 36 #[.val (.int p0), .val (if (25 : Int32) = p0 then ((.ref v_TEXT) : Value) else m4), .val (.ref bb_33), .val (.int (15 : Int32)), .val (.int (4 : Int32)), .val (.ref v_TEXT)] [])) t → Steps p.tables e below (s₁.setTop (entryFrame m #[(.int p0)] 6)) t := by
    intro t kt
    refine S63 _ ?_
    by_cases hc30_64 : (25 : Int32) = p0
    case pos =>
      rw [(if_pos hc30_64 : (if (25 : Int32) = p0 then ((.ref v_TEXT) : Value) else m4) = (.ref v_TEXT))] at kt
      show Steps p.tables e below (T62.setTop (mkF m 30 #[.val (.int p0), .val m4, .val (.ref bb_33), .val (.int (15 : Int32)), .val (.int (4 : Int32)), .val (.ref v_TEXT)] [(.int p0), (.int (25 : Int32))])) _
      refine XS.icmpNo X62.here hx rfl (hb hby d2_30) rfl (XT.ii_ne_f hc30_64) ?_
      show Steps p.tables e below (T62.setTop (mkF m 33 #[.val (.int p0), .val m4, .val (.ref bb_33), .val (.int (15 : Int32)), .val (.int (4 : Int32)), .val (.ref v_TEXT)] [])) _
      refine XS.aload X62.here hx rfl (hb hby d2_33) rfl rfl ?_
      show Steps p.tables e below (T62.setTop (mkF m 35 #[.val (.int p0), .val m4, .val (.ref bb_33), .val (.int (15 : Int32)), .val (.int (4 : Int32)), .val (.ref v_TEXT)] [(.ref v_TEXT)])) _
      refine XS.astoreN X62.here hx rfl (hb hby d2_35) rfl rfl (l' := #[.val (.int p0), .val (.ref v_TEXT), .val (.ref bb_33), .val (.int (15 : Int32)), .val (.int (4 : Int32)), .val (.ref v_TEXT)]) (XS.store1 rfl (Or.inr ⟨_, rfl, (XT.cat1 rf_m4)⟩) rfl) ?_
      exact kt
    case neg =>
      rw [(if_neg hc30_64 : (if (25 : Int32) = p0 then ((.ref v_TEXT) : Value) else m4) = m4)] at kt
      show Steps p.tables e below (T62.setTop (mkF m 30 #[.val (.int p0), .val m4, .val (.ref bb_33), .val (.int (15 : Int32)), .val (.int (4 : Int32)), .val (.ref v_TEXT)] [(.int p0), (.int (25 : Int32))])) _
      refine XS.icmpYes X62.here hx rfl (pc0 := 30) (pc' := 36) rfl (hb hby d2_30) rfl (XT.ii_ne_t hc30_64) (by decide) (by decide) ?_
      exact kt
  obtain ⟨m5, hd_m5⟩ : ∃ z, z = (if (25 : Int32) = p0 then ((.ref v_TEXT) : Value) else m4) := ⟨_, rfl⟩
  rw [← hd_m5] at S65
  have rf_m5 : m5.isRef = true := by rw [hd_m5]; exact (own_ite_ref rfl rf_m4)
  obtain ⟨cl66, Ar66, q66, S_66, N_66, H66, G66⟩ := id f33_1
  have hin66 : ¬ ((5 : Int32) < 0 ∨ cl66.slots.size ≤ ((5 : Int32)).toNatClampNeg) := inb_of S_66 ⟨by decide, by decide⟩
  have hat66 : cl66.slots[((5 : Int32)).toNatClampNeg]? = some (.ref v_VARCHAR) := Has.at H66 hin66 (by rfl)
  have c67 : Fld Z T33.heap v_VARCHAR "com/example/gatedb/gatedb/pgwire/PgType" "oid" "I" (.int (1043 : Int32)) := (Fv_VARCHAR_oid.keep Kq33 List.not_mem_nil)
  obtain ⟨T68, X68, e68, st68⟩ := getF X62 hx hZ hown (host := "") (Or.inl (hw _ (List.mem_of_getElem? (i := 39) rfl))) Via.refl e62 c67 (g := (mkF m 26 #[.val (.int p0), .val m5, .val (.ref bb_33), .val (.int (15 : Int32)), .val (.int (5 : Int32)), .val (.ref v_VARCHAR)] [(.ref v_VARCHAR)])) rfl rfl (hb hby d2_26)
  have S69 : ∀ t, Steps p.tables e below (T68.setTop (mkF m 30 #[.val (.int p0), .val m5, .val (.ref bb_33), .val (.int (15 : Int32)), .val (.int (5 : Int32)), .val (.ref v_VARCHAR)] [(.int p0), (.int (1043 : Int32))])) t → Steps p.tables e below (s₁.setTop (entryFrame m #[(.int p0)] 6)) t := by
    intro t kt
    refine S65 _ ?_
    show Steps p.tables e below (T62.setTop (mkF m 36 #[.val (.int p0), .val m5, .val (.ref bb_33), .val (.int (15 : Int32)), .val (.int (4 : Int32)), .val (.ref v_TEXT)] [])) _
    refine XS.iinc X62.here hx rfl (hb hby d2_36) rfl (l' := #[.val (.int p0), .val m5, .val (.ref bb_33), .val (.int (15 : Int32)), .val (.int (5 : Int32)), .val (.ref v_TEXT)]) rfl ?_
    show Steps p.tables e below (T62.setTop (mkF m 39 #[.val (.int p0), .val m5, .val (.ref bb_33), .val (.int (15 : Int32)), .val (.int (5 : Int32)), .val (.ref v_TEXT)] [])) _
    refine XS.goto X62.here hx rfl (pc0 := 39) (pc' := 12) rfl (hb hby d2_39) (by decide) (by decide) ?_
    show Steps p.tables e below (T62.setTop (mkF m 12 #[.val (.int p0), .val m5, .val (.ref bb_33), .val (.int (15 : Int32)), .val (.int (5 : Int32)), .val (.ref v_TEXT)] [])) _
    refine XS.iload X62.here hx rfl (hb hby d2_12) rfl ?_
    show Steps p.tables e below (T62.setTop (mkF m 14 #[.val (.int p0), .val m5, .val (.ref bb_33), .val (.int (15 : Int32)), .val (.int (5 : Int32)), .val (.ref v_TEXT)] [(.int (5 : Int32))])) _
    refine XS.iloadN X62.here hx rfl (hb hby d2_14) rfl ?_
    show Steps p.tables e below (T62.setTop (mkF m 15 #[.val (.int p0), .val m5, .val (.ref bb_33), .val (.int (15 : Int32)), .val (.int (5 : Int32)), .val (.ref v_TEXT)] [(.int (15 : Int32)), (.int (5 : Int32))])) _
    refine XS.icmpNo X62.here hx rfl (hb hby d2_15) rfl (XT.ii_ge_f (by decide)) ?_
    show Steps p.tables e below (T62.setTop (mkF m 18 #[.val (.int p0), .val m5, .val (.ref bb_33), .val (.int (15 : Int32)), .val (.int (5 : Int32)), .val (.ref v_TEXT)] [])) _
    refine XS.aloadN X62.here hx rfl (hb hby d2_18) rfl rfl ?_
    show Steps p.tables e below (T62.setTop (mkF m 19 #[.val (.int p0), .val m5, .val (.ref bb_33), .val (.int (15 : Int32)), .val (.int (5 : Int32)), .val (.ref v_TEXT)] [(.ref bb_33)])) _
    refine XS.iload X62.here hx rfl (hb hby d2_19) rfl ?_
    show Steps p.tables e below (T62.setTop (mkF m 21 #[.val (.int p0), .val m5, .val (.ref bb_33), .val (.int (15 : Int32)), .val (.int (5 : Int32)), .val (.ref v_TEXT)] [(.int (5 : Int32)), (.ref bb_33)])) _
    refine X62.aaload hx (j := (5 : Int32)) (v := (.ref v_VARCHAR)) (by rw [e62]; exact Ar66.1) (State.isArrayOf_alike hZ.alike Ar66.2.1) rfl Ar66.2.2 hin66 hat66 (g := (mkF m 21 #[.val (.int p0), .val m5, .val (.ref bb_33), .val (.int (15 : Int32)), .val (.int (5 : Int32)), .val (.ref v_TEXT)] [(.int (5 : Int32)), (.ref bb_33)])) rfl rfl (hb hby d2_21) _ ?_
    show Steps p.tables e below (T62.setTop (mkF m 22 #[.val (.int p0), .val m5, .val (.ref bb_33), .val (.int (15 : Int32)), .val (.int (5 : Int32)), .val (.ref v_TEXT)] [(.ref v_VARCHAR)])) _
    refine XS.astore X62.here hx rfl (hb hby d2_22) rfl rfl (l' := #[.val (.int p0), .val m5, .val (.ref bb_33), .val (.int (15 : Int32)), .val (.int (5 : Int32)), .val (.ref v_VARCHAR)]) rfl ?_
    show Steps p.tables e below (T62.setTop (mkF m 24 #[.val (.int p0), .val m5, .val (.ref bb_33), .val (.int (15 : Int32)), .val (.int (5 : Int32)), .val (.ref v_VARCHAR)] [])) _
    refine XS.aload X62.here hx rfl (hb hby d2_24) rfl rfl ?_
    show Steps p.tables e below (T62.setTop (mkF m 26 #[.val (.int p0), .val m5, .val (.ref bb_33), .val (.int (15 : Int32)), .val (.int (5 : Int32)), .val (.ref v_VARCHAR)] [(.ref v_VARCHAR)])) _
    refine st68 _ ?_
    show Steps p.tables e below (T68.setTop (mkF m 29 #[.val (.int p0), .val m5, .val (.ref bb_33), .val (.int (15 : Int32)), .val (.int (5 : Int32)), .val (.ref v_VARCHAR)] [(.int (1043 : Int32))])) _
    refine XS.iloadN X68.here hx rfl (hb hby d2_29) rfl ?_
    exact kt
  have S71 : ∀ t, Steps p.tables e below (T68.setTop (mkF m 36 #[.val (.int p0), .val (if (1043 : Int32) = p0 then ((.ref v_VARCHAR) : Value) else m5), .val (.ref bb_33), .val (.int (15 : Int32)), .val (.int (5 : Int32)), .val (.ref v_VARCHAR)] [])) t → Steps p.tables e below (s₁.setTop (entryFrame m #[(.int p0)] 6)) t := by
    intro t kt
    refine S69 _ ?_
    by_cases hc30_70 : (1043 : Int32) = p0
    case pos =>
      rw [(if_pos hc30_70 : (if (1043 : Int32) = p0 then ((.ref v_VARCHAR) : Value) else m5) = (.ref v_VARCHAR))] at kt
      show Steps p.tables e below (T68.setTop (mkF m 30 #[.val (.int p0), .val m5, .val (.ref bb_33), .val (.int (15 : Int32)), .val (.int (5 : Int32)), .val (.ref v_VARCHAR)] [(.int p0), (.int (1043 : Int32))])) _
      refine XS.icmpNo X68.here hx rfl (hb hby d2_30) rfl (XT.ii_ne_f hc30_70) ?_
      show Steps p.tables e below (T68.setTop (mkF m 33 #[.val (.int p0), .val m5, .val (.ref bb_33), .val (.int (15 : Int32)), .val (.int (5 : Int32)), .val (.ref v_VARCHAR)] [])) _
      refine XS.aload X68.here hx rfl (hb hby d2_33) rfl rfl ?_
      show Steps p.tables e below (T68.setTop (mkF m 35 #[.val (.int p0), .val m5, .val (.ref bb_33), .val (.int (15 : Int32)), .val (.int (5 : Int32)), .val (.ref v_VARCHAR)] [(.ref v_VARCHAR)])) _
      refine XS.astoreN X68.here hx rfl (hb hby d2_35) rfl rfl (l' := #[.val (.int p0), .val (.ref v_VARCHAR), .val (.ref bb_33), .val (.int (15 : Int32)), .val (.int (5 : Int32)), .val (.ref v_VARCHAR)]) (XS.store1 rfl (Or.inr ⟨_, rfl, (XT.cat1 rf_m5)⟩) rfl) ?_
      exact kt
    case neg =>
      rw [(if_neg hc30_70 : (if (1043 : Int32) = p0 then ((.ref v_VARCHAR) : Value) else m5) = m5)] at kt
      show Steps p.tables e below (T68.setTop (mkF m 30 #[.val (.int p0), .val m5, .val (.ref bb_33), .val (.int (15 : Int32)), .val (.int (5 : Int32)), .val (.ref v_VARCHAR)] [(.int p0), (.int (1043 : Int32))])) _
      refine XS.icmpYes X68.here hx rfl (pc0 := 30) (pc' := 36) rfl (hb hby d2_30) rfl (XT.ii_ne_t hc30_70) (by decide) (by decide) ?_
      exact kt
  obtain ⟨m6, hd_m6⟩ : ∃ z, z = (if (1043 : Int32) = p0 then ((.ref v_VARCHAR) : Value) else m5) := ⟨_, rfl⟩
  rw [← hd_m6] at S71
  have rf_m6 : m6.isRef = true := by rw [hd_m6]; exact (own_ite_ref rfl rf_m5)
  obtain ⟨cl72, Ar72, q72, S_72, N_72, H72, G72⟩ := id f33_1
  have hin72 : ¬ ((6 : Int32) < 0 ∨ cl72.slots.size ≤ ((6 : Int32)).toNatClampNeg) := inb_of S_72 ⟨by decide, by decide⟩
  have hat72 : cl72.slots[((6 : Int32)).toNatClampNeg]? = some (.ref v_BPCHAR) := Has.at H72 hin72 (by rfl)
  have c73 : Fld Z T33.heap v_BPCHAR "com/example/gatedb/gatedb/pgwire/PgType" "oid" "I" (.int (1042 : Int32)) := (Fv_BPCHAR_oid.keep Kq33 List.not_mem_nil)
  obtain ⟨T74, X74, e74, st74⟩ := getF X68 hx hZ hown (host := "") (Or.inl (hw _ (List.mem_of_getElem? (i := 39) rfl))) Via.refl e68 c73 (g := (mkF m 26 #[.val (.int p0), .val m6, .val (.ref bb_33), .val (.int (15 : Int32)), .val (.int (6 : Int32)), .val (.ref v_BPCHAR)] [(.ref v_BPCHAR)])) rfl rfl (hb hby d2_26)
  have S75 : ∀ t, Steps p.tables e below (T74.setTop (mkF m 30 #[.val (.int p0), .val m6, .val (.ref bb_33), .val (.int (15 : Int32)), .val (.int (6 : Int32)), .val (.ref v_BPCHAR)] [(.int p0), (.int (1042 : Int32))])) t → Steps p.tables e below (s₁.setTop (entryFrame m #[(.int p0)] 6)) t := by
    intro t kt
    refine S71 _ ?_
    show Steps p.tables e below (T68.setTop (mkF m 36 #[.val (.int p0), .val m6, .val (.ref bb_33), .val (.int (15 : Int32)), .val (.int (5 : Int32)), .val (.ref v_VARCHAR)] [])) _
    refine XS.iinc X68.here hx rfl (hb hby d2_36) rfl (l' := #[.val (.int p0), .val m6, .val (.ref bb_33), .val (.int (15 : Int32)), .val (.int (6 : Int32)), .val (.ref v_VARCHAR)]) rfl ?_
    show Steps p.tables e below (T68.setTop (mkF m 39 #[.val (.int p0), .val m6, .val (.ref bb_33), .val (.int (15 : Int32)), .val (.int (6 : Int32)), .val (.ref v_VARCHAR)] [])) _
    refine XS.goto X68.here hx rfl (pc0 := 39) (pc' := 12) rfl (hb hby d2_39) (by decide) (by decide) ?_
    show Steps p.tables e below (T68.setTop (mkF m 12 #[.val (.int p0), .val m6, .val (.ref bb_33), .val (.int (15 : Int32)), .val (.int (6 : Int32)), .val (.ref v_VARCHAR)] [])) _
    refine XS.iload X68.here hx rfl (hb hby d2_12) rfl ?_
    show Steps p.tables e below (T68.setTop (mkF m 14 #[.val (.int p0), .val m6, .val (.ref bb_33), .val (.int (15 : Int32)), .val (.int (6 : Int32)), .val (.ref v_VARCHAR)] [(.int (6 : Int32))])) _
    refine XS.iloadN X68.here hx rfl (hb hby d2_14) rfl ?_
    show Steps p.tables e below (T68.setTop (mkF m 15 #[.val (.int p0), .val m6, .val (.ref bb_33), .val (.int (15 : Int32)), .val (.int (6 : Int32)), .val (.ref v_VARCHAR)] [(.int (15 : Int32)), (.int (6 : Int32))])) _
    refine XS.icmpNo X68.here hx rfl (hb hby d2_15) rfl (XT.ii_ge_f (by decide)) ?_
    show Steps p.tables e below (T68.setTop (mkF m 18 #[.val (.int p0), .val m6, .val (.ref bb_33), .val (.int (15 : Int32)), .val (.int (6 : Int32)), .val (.ref v_VARCHAR)] [])) _
    refine XS.aloadN X68.here hx rfl (hb hby d2_18) rfl rfl ?_
    show Steps p.tables e below (T68.setTop (mkF m 19 #[.val (.int p0), .val m6, .val (.ref bb_33), .val (.int (15 : Int32)), .val (.int (6 : Int32)), .val (.ref v_VARCHAR)] [(.ref bb_33)])) _
    refine XS.iload X68.here hx rfl (hb hby d2_19) rfl ?_
    show Steps p.tables e below (T68.setTop (mkF m 21 #[.val (.int p0), .val m6, .val (.ref bb_33), .val (.int (15 : Int32)), .val (.int (6 : Int32)), .val (.ref v_VARCHAR)] [(.int (6 : Int32)), (.ref bb_33)])) _
    refine X68.aaload hx (j := (6 : Int32)) (v := (.ref v_BPCHAR)) (by rw [e68]; exact Ar72.1) (State.isArrayOf_alike hZ.alike Ar72.2.1) rfl Ar72.2.2 hin72 hat72 (g := (mkF m 21 #[.val (.int p0), .val m6, .val (.ref bb_33), .val (.int (15 : Int32)), .val (.int (6 : Int32)), .val (.ref v_VARCHAR)] [(.int (6 : Int32)), (.ref bb_33)])) rfl rfl (hb hby d2_21) _ ?_
    show Steps p.tables e below (T68.setTop (mkF m 22 #[.val (.int p0), .val m6, .val (.ref bb_33), .val (.int (15 : Int32)), .val (.int (6 : Int32)), .val (.ref v_VARCHAR)] [(.ref v_BPCHAR)])) _
    refine XS.astore X68.here hx rfl (hb hby d2_22) rfl rfl (l' := #[.val (.int p0), .val m6, .val (.ref bb_33), .val (.int (15 : Int32)), .val (.int (6 : Int32)), .val (.ref v_BPCHAR)]) rfl ?_
    show Steps p.tables e below (T68.setTop (mkF m 24 #[.val (.int p0), .val m6, .val (.ref bb_33), .val (.int (15 : Int32)), .val (.int (6 : Int32)), .val (.ref v_BPCHAR)] [])) _
    refine XS.aload X68.here hx rfl (hb hby d2_24) rfl rfl ?_
    show Steps p.tables e below (T68.setTop (mkF m 26 #[.val (.int p0), .val m6, .val (.ref bb_33), .val (.int (15 : Int32)), .val (.int (6 : Int32)), .val (.ref v_BPCHAR)] [(.ref v_BPCHAR)])) _
    refine st74 _ ?_
    show Steps p.tables e below (T74.setTop (mkF m 29 #[.val (.int p0), .val m6, .val (.ref bb_33), .val (.int (15 : Int32)), .val (.int (6 : Int32)), .val (.ref v_BPCHAR)] [(.int (1042 : Int32))])) _
    refine XS.iloadN X74.here hx rfl (hb hby d2_29) rfl ?_
    exact kt
  have S77 : ∀ t, Steps p.tables e below (T74.setTop (mkF m 36 #[.val (.int p0), .val (if (1042 : Int32) = p0 then ((.ref v_BPCHAR) : Value) else m6), .val (.ref bb_33), .val (.int (15 : Int32)), .val (.int (6 : Int32)), .val (.ref v_BPCHAR)] [])) t → Steps p.tables e below (s₁.setTop (entryFrame m #[(.int p0)] 6)) t := by
    intro t kt
    refine S75 _ ?_
    by_cases hc30_76 : (1042 : Int32) = p0
    case pos =>
      rw [(if_pos hc30_76 : (if (1042 : Int32) = p0 then ((.ref v_BPCHAR) : Value) else m6) = (.ref v_BPCHAR))] at kt
      show Steps p.tables e below (T74.setTop (mkF m 30 #[.val (.int p0), .val m6, .val (.ref bb_33), .val (.int (15 : Int32)), .val (.int (6 : Int32)), .val (.ref v_BPCHAR)] [(.int p0), (.int (1042 : Int32))])) _
      refine XS.icmpNo X74.here hx rfl (hb hby d2_30) rfl (XT.ii_ne_f hc30_76) ?_
      show Steps p.tables e below (T74.setTop (mkF m 33 #[.val (.int p0), .val m6, .val (.ref bb_33), .val (.int (15 : Int32)), .val (.int (6 : Int32)), .val (.ref v_BPCHAR)] [])) _
      refine XS.aload X74.here hx rfl (hb hby d2_33) rfl rfl ?_
      show Steps p.tables e below (T74.setTop (mkF m 35 #[.val (.int p0), .val m6, .val (.ref bb_33), .val (.int (15 : Int32)), .val (.int (6 : Int32)), .val (.ref v_BPCHAR)] [(.ref v_BPCHAR)])) _
      refine XS.astoreN X74.here hx rfl (hb hby d2_35) rfl rfl (l' := #[.val (.int p0), .val (.ref v_BPCHAR), .val (.ref bb_33), .val (.int (15 : Int32)), .val (.int (6 : Int32)), .val (.ref v_BPCHAR)]) (XS.store1 rfl (Or.inr ⟨_, rfl, (XT.cat1 rf_m6)⟩) rfl) ?_
      exact kt
    case neg =>
      rw [(if_neg hc30_76 : (if (1042 : Int32) = p0 then ((.ref v_BPCHAR) : Value) else m6) = m6)] at kt
      show Steps p.tables e below (T74.setTop (mkF m 30 #[.val (.int p0), .val m6, .val (.ref bb_33), .val (.int (15 : Int32)), .val (.int (6 : Int32)), .val (.ref v_BPCHAR)] [(.int p0), (.int (1042 : Int32))])) _
      refine XS.icmpYes X74.here hx rfl (pc0 := 30) (pc' := 36) rfl (hb hby d2_30) rfl (XT.ii_ne_t hc30_76) (by decide) (by decide) ?_
      exact kt
  obtain ⟨m7, hd_m7⟩ : ∃ z, z = (if (1042 : Int32) = p0 then ((.ref v_BPCHAR) : Value) else m6) := ⟨_, rfl⟩
  rw [← hd_m7] at S77
  have rf_m7 : m7.isRef = true := by rw [hd_m7]; exact (own_ite_ref rfl rf_m6)
  obtain ⟨cl78, Ar78, q78, S_78, N_78, H78, G78⟩ := id f33_1
  have hin78 : ¬ ((7 : Int32) < 0 ∨ cl78.slots.size ≤ ((7 : Int32)).toNatClampNeg) := inb_of S_78 ⟨by decide, by decide⟩
  have hat78 : cl78.slots[((7 : Int32)).toNatClampNeg]? = some (.ref v_NAME) := Has.at H78 hin78 (by rfl)
  have c79 : Fld Z T33.heap v_NAME "com/example/gatedb/gatedb/pgwire/PgType" "oid" "I" (.int (19 : Int32)) := (Fv_NAME_oid.keep Kq33 List.not_mem_nil)
  obtain ⟨T80, X80, e80, st80⟩ := getF X74 hx hZ hown (host := "") (Or.inl (hw _ (List.mem_of_getElem? (i := 39) rfl))) Via.refl e74 c79 (g := (mkF m 26 #[.val (.int p0), .val m7, .val (.ref bb_33), .val (.int (15 : Int32)), .val (.int (7 : Int32)), .val (.ref v_NAME)] [(.ref v_NAME)])) rfl rfl (hb hby d2_26)
  have S81 : ∀ t, Steps p.tables e below (T80.setTop (mkF m 30 #[.val (.int p0), .val m7, .val (.ref bb_33), .val (.int (15 : Int32)), .val (.int (7 : Int32)), .val (.ref v_NAME)] [(.int p0), (.int (19 : Int32))])) t → Steps p.tables e below (s₁.setTop (entryFrame m #[(.int p0)] 6)) t := by
    intro t kt
    refine S77 _ ?_
    show Steps p.tables e below (T74.setTop (mkF m 36 #[.val (.int p0), .val m7, .val (.ref bb_33), .val (.int (15 : Int32)), .val (.int (6 : Int32)), .val (.ref v_BPCHAR)] [])) _
    refine XS.iinc X74.here hx rfl (hb hby d2_36) rfl (l' := #[.val (.int p0), .val m7, .val (.ref bb_33), .val (.int (15 : Int32)), .val (.int (7 : Int32)), .val (.ref v_BPCHAR)]) rfl ?_
    show Steps p.tables e below (T74.setTop (mkF m 39 #[.val (.int p0), .val m7, .val (.ref bb_33), .val (.int (15 : Int32)), .val (.int (7 : Int32)), .val (.ref v_BPCHAR)] [])) _
    refine XS.goto X74.here hx rfl (pc0 := 39) (pc' := 12) rfl (hb hby d2_39) (by decide) (by decide) ?_
    show Steps p.tables e below (T74.setTop (mkF m 12 #[.val (.int p0), .val m7, .val (.ref bb_33), .val (.int (15 : Int32)), .val (.int (7 : Int32)), .val (.ref v_BPCHAR)] [])) _
    refine XS.iload X74.here hx rfl (hb hby d2_12) rfl ?_
    show Steps p.tables e below (T74.setTop (mkF m 14 #[.val (.int p0), .val m7, .val (.ref bb_33), .val (.int (15 : Int32)), .val (.int (7 : Int32)), .val (.ref v_BPCHAR)] [(.int (7 : Int32))])) _
    refine XS.iloadN X74.here hx rfl (hb hby d2_14) rfl ?_
    show Steps p.tables e below (T74.setTop (mkF m 15 #[.val (.int p0), .val m7, .val (.ref bb_33), .val (.int (15 : Int32)), .val (.int (7 : Int32)), .val (.ref v_BPCHAR)] [(.int (15 : Int32)), (.int (7 : Int32))])) _
    refine XS.icmpNo X74.here hx rfl (hb hby d2_15) rfl (XT.ii_ge_f (by decide)) ?_
    show Steps p.tables e below (T74.setTop (mkF m 18 #[.val (.int p0), .val m7, .val (.ref bb_33), .val (.int (15 : Int32)), .val (.int (7 : Int32)), .val (.ref v_BPCHAR)] [])) _
    refine XS.aloadN X74.here hx rfl (hb hby d2_18) rfl rfl ?_
    show Steps p.tables e below (T74.setTop (mkF m 19 #[.val (.int p0), .val m7, .val (.ref bb_33), .val (.int (15 : Int32)), .val (.int (7 : Int32)), .val (.ref v_BPCHAR)] [(.ref bb_33)])) _
    refine XS.iload X74.here hx rfl (hb hby d2_19) rfl ?_
    show Steps p.tables e below (T74.setTop (mkF m 21 #[.val (.int p0), .val m7, .val (.ref bb_33), .val (.int (15 : Int32)), .val (.int (7 : Int32)), .val (.ref v_BPCHAR)] [(.int (7 : Int32)), (.ref bb_33)])) _
    refine X74.aaload hx (j := (7 : Int32)) (v := (.ref v_NAME)) (by rw [e74]; exact Ar78.1) (State.isArrayOf_alike hZ.alike Ar78.2.1) rfl Ar78.2.2 hin78 hat78 (g := (mkF m 21 #[.val (.int p0), .val m7, .val (.ref bb_33), .val (.int (15 : Int32)), .val (.int (7 : Int32)), .val (.ref v_BPCHAR)] [(.int (7 : Int32)), (.ref bb_33)])) rfl rfl (hb hby d2_21) _ ?_
    show Steps p.tables e below (T74.setTop (mkF m 22 #[.val (.int p0), .val m7, .val (.ref bb_33), .val (.int (15 : Int32)), .val (.int (7 : Int32)), .val (.ref v_BPCHAR)] [(.ref v_NAME)])) _
    refine XS.astore X74.here hx rfl (hb hby d2_22) rfl rfl (l' := #[.val (.int p0), .val m7, .val (.ref bb_33), .val (.int (15 : Int32)), .val (.int (7 : Int32)), .val (.ref v_NAME)]) rfl ?_
    show Steps p.tables e below (T74.setTop (mkF m 24 #[.val (.int p0), .val m7, .val (.ref bb_33), .val (.int (15 : Int32)), .val (.int (7 : Int32)), .val (.ref v_NAME)] [])) _
    refine XS.aload X74.here hx rfl (hb hby d2_24) rfl rfl ?_
    show Steps p.tables e below (T74.setTop (mkF m 26 #[.val (.int p0), .val m7, .val (.ref bb_33), .val (.int (15 : Int32)), .val (.int (7 : Int32)), .val (.ref v_NAME)] [(.ref v_NAME)])) _
    refine st80 _ ?_
    show Steps p.tables e below (T80.setTop (mkF m 29 #[.val (.int p0), .val m7, .val (.ref bb_33), .val (.int (15 : Int32)), .val (.int (7 : Int32)), .val (.ref v_NAME)] [(.int (19 : Int32))])) _
    refine XS.iloadN X80.here hx rfl (hb hby d2_29) rfl ?_
    exact kt
  have S83 : ∀ t, Steps p.tables e below (T80.setTop (mkF m 36 #[.val (.int p0), .val (if (19 : Int32) = p0 then ((.ref v_NAME) : Value) else m7), .val (.ref bb_33), .val (.int (15 : Int32)), .val (.int (7 : Int32)), .val (.ref v_NAME)] [])) t → Steps p.tables e below (s₁.setTop (entryFrame m #[(.int p0)] 6)) t := by
    intro t kt
    refine S81 _ ?_
    by_cases hc30_82 : (19 : Int32) = p0
    case pos =>
      rw [(if_pos hc30_82 : (if (19 : Int32) = p0 then ((.ref v_NAME) : Value) else m7) = (.ref v_NAME))] at kt
      show Steps p.tables e below (T80.setTop (mkF m 30 #[.val (.int p0), .val m7, .val (.ref bb_33), .val (.int (15 : Int32)), .val (.int (7 : Int32)), .val (.ref v_NAME)] [(.int p0), (.int (19 : Int32))])) _
      refine XS.icmpNo X80.here hx rfl (hb hby d2_30) rfl (XT.ii_ne_f hc30_82) ?_
      show Steps p.tables e below (T80.setTop (mkF m 33 #[.val (.int p0), .val m7, .val (.ref bb_33), .val (.int (15 : Int32)), .val (.int (7 : Int32)), .val (.ref v_NAME)] [])) _
      refine XS.aload X80.here hx rfl (hb hby d2_33) rfl rfl ?_
      show Steps p.tables e below (T80.setTop (mkF m 35 #[.val (.int p0), .val m7, .val (.ref bb_33), .val (.int (15 : Int32)), .val (.int (7 : Int32)), .val (.ref v_NAME)] [(.ref v_NAME)])) _
      refine XS.astoreN X80.here hx rfl (hb hby d2_35) rfl rfl (l' := #[.val (.int p0), .val (.ref v_NAME), .val (.ref bb_33), .val (.int (15 : Int32)), .val (.int (7 : Int32)), .val (.ref v_NAME)]) (XS.store1 rfl (Or.inr ⟨_, rfl, (XT.cat1 rf_m7)⟩) rfl) ?_
      exact kt
    case neg =>
      rw [(if_neg hc30_82 : (if (19 : Int32) = p0 then ((.ref v_NAME) : Value) else m7) = m7)] at kt
      show Steps p.tables e below (T80.setTop (mkF m 30 #[.val (.int p0), .val m7, .val (.ref bb_33), .val (.int (15 : Int32)), .val (.int (7 : Int32)), .val (.ref v_NAME)] [(.int p0), (.int (19 : Int32))])) _
      refine XS.icmpYes X80.here hx rfl (pc0 := 30) (pc' := 36) rfl (hb hby d2_30) rfl (XT.ii_ne_t hc30_82) (by decide) (by decide) ?_
      exact kt
  obtain ⟨m8, hd_m8⟩ : ∃ z, z = (if (19 : Int32) = p0 then ((.ref v_NAME) : Value) else m7) := ⟨_, rfl⟩
  rw [← hd_m8] at S83
  have rf_m8 : m8.isRef = true := by rw [hd_m8]; exact (own_ite_ref rfl rf_m7)
  obtain ⟨cl84, Ar84, q84, S_84, N_84, H84, G84⟩ := id f33_1
  have hin84 : ¬ ((8 : Int32) < 0 ∨ cl84.slots.size ≤ ((8 : Int32)).toNatClampNeg) := inb_of S_84 ⟨by decide, by decide⟩
  have hat84 : cl84.slots[((8 : Int32)).toNatClampNeg]? = some (.ref v_FLOAT4) := Has.at H84 hin84 (by rfl)
  have c85 : Fld Z T33.heap v_FLOAT4 "com/example/gatedb/gatedb/pgwire/PgType" "oid" "I" (.int (700 : Int32)) := (Fv_FLOAT4_oid.keep Kq33 List.not_mem_nil)
  obtain ⟨T86, X86, e86, st86⟩ := getF X80 hx hZ hown (host := "") (Or.inl (hw _ (List.mem_of_getElem? (i := 39) rfl))) Via.refl e80 c85 (g := (mkF m 26 #[.val (.int p0), .val m8, .val (.ref bb_33), .val (.int (15 : Int32)), .val (.int (8 : Int32)), .val (.ref v_FLOAT4)] [(.ref v_FLOAT4)])) rfl rfl (hb hby d2_26)
  have S87 : ∀ t, Steps p.tables e below (T86.setTop (mkF m 30 #[.val (.int p0), .val m8, .val (.ref bb_33), .val (.int (15 : Int32)), .val (.int (8 : Int32)), .val (.ref v_FLOAT4)] [(.int p0), (.int (700 : Int32))])) t → Steps p.tables e below (s₁.setTop (entryFrame m #[(.int p0)] 6)) t := by
    intro t kt
    refine S83 _ ?_
    show Steps p.tables e below (T80.setTop (mkF m 36 #[.val (.int p0), .val m8, .val (.ref bb_33), .val (.int (15 : Int32)), .val (.int (7 : Int32)), .val (.ref v_NAME)] [])) _
    refine XS.iinc X80.here hx rfl (hb hby d2_36) rfl (l' := #[.val (.int p0), .val m8, .val (.ref bb_33), .val (.int (15 : Int32)), .val (.int (8 : Int32)), .val (.ref v_NAME)]) rfl ?_
    show Steps p.tables e below (T80.setTop (mkF m 39 #[.val (.int p0), .val m8, .val (.ref bb_33), .val (.int (15 : Int32)), .val (.int (8 : Int32)), .val (.ref v_NAME)] [])) _
    refine XS.goto X80.here hx rfl (pc0 := 39) (pc' := 12) rfl (hb hby d2_39) (by decide) (by decide) ?_
    show Steps p.tables e below (T80.setTop (mkF m 12 #[.val (.int p0), .val m8, .val (.ref bb_33), .val (.int (15 : Int32)), .val (.int (8 : Int32)), .val (.ref v_NAME)] [])) _
    refine XS.iload X80.here hx rfl (hb hby d2_12) rfl ?_
    show Steps p.tables e below (T80.setTop (mkF m 14 #[.val (.int p0), .val m8, .val (.ref bb_33), .val (.int (15 : Int32)), .val (.int (8 : Int32)), .val (.ref v_NAME)] [(.int (8 : Int32))])) _
    refine XS.iloadN X80.here hx rfl (hb hby d2_14) rfl ?_
    show Steps p.tables e below (T80.setTop (mkF m 15 #[.val (.int p0), .val m8, .val (.ref bb_33), .val (.int (15 : Int32)), .val (.int (8 : Int32)), .val (.ref v_NAME)] [(.int (15 : Int32)), (.int (8 : Int32))])) _
    refine XS.icmpNo X80.here hx rfl (hb hby d2_15) rfl (XT.ii_ge_f (by decide)) ?_
    show Steps p.tables e below (T80.setTop (mkF m 18 #[.val (.int p0), .val m8, .val (.ref bb_33), .val (.int (15 : Int32)), .val (.int (8 : Int32)), .val (.ref v_NAME)] [])) _
    refine XS.aloadN X80.here hx rfl (hb hby d2_18) rfl rfl ?_
    show Steps p.tables e below (T80.setTop (mkF m 19 #[.val (.int p0), .val m8, .val (.ref bb_33), .val (.int (15 : Int32)), .val (.int (8 : Int32)), .val (.ref v_NAME)] [(.ref bb_33)])) _
    refine XS.iload X80.here hx rfl (hb hby d2_19) rfl ?_
    show Steps p.tables e below (T80.setTop (mkF m 21 #[.val (.int p0), .val m8, .val (.ref bb_33), .val (.int (15 : Int32)), .val (.int (8 : Int32)), .val (.ref v_NAME)] [(.int (8 : Int32)), (.ref bb_33)])) _
    refine X80.aaload hx (j := (8 : Int32)) (v := (.ref v_FLOAT4)) (by rw [e80]; exact Ar84.1) (State.isArrayOf_alike hZ.alike Ar84.2.1) rfl Ar84.2.2 hin84 hat84 (g := (mkF m 21 #[.val (.int p0), .val m8, .val (.ref bb_33), .val (.int (15 : Int32)), .val (.int (8 : Int32)), .val (.ref v_NAME)] [(.int (8 : Int32)), (.ref bb_33)])) rfl rfl (hb hby d2_21) _ ?_
    show Steps p.tables e below (T80.setTop (mkF m 22 #[.val (.int p0), .val m8, .val (.ref bb_33), .val (.int (15 : Int32)), .val (.int (8 : Int32)), .val (.ref v_NAME)] [(.ref v_FLOAT4)])) _
    refine XS.astore X80.here hx rfl (hb hby d2_22) rfl rfl (l' := #[.val (.int p0), .val m8, .val (.ref bb_33), .val (.int (15 : Int32)), .val (.int (8 : Int32)), .val (.ref v_FLOAT4)]) rfl ?_
    show Steps p.tables e below (T80.setTop (mkF m 24 #[.val (.int p0), .val m8, .val (.ref bb_33), .val (.int (15 : Int32)), .val (.int (8 : Int32)), .val (.ref v_FLOAT4)] [])) _
    refine XS.aload X80.here hx rfl (hb hby d2_24) rfl rfl ?_
    show Steps p.tables e below (T80.setTop (mkF m 26 #[.val (.int p0), .val m8, .val (.ref bb_33), .val (.int (15 : Int32)), .val (.int (8 : Int32)), .val (.ref v_FLOAT4)] [(.ref v_FLOAT4)])) _
    refine st86 _ ?_
    show Steps p.tables e below (T86.setTop (mkF m 29 #[.val (.int p0), .val m8, .val (.ref bb_33), .val (.int (15 : Int32)), .val (.int (8 : Int32)), .val (.ref v_FLOAT4)] [(.int (700 : Int32))])) _
    refine XS.iloadN X86.here hx rfl (hb hby d2_29) rfl ?_
    exact kt
  have S89 : ∀ t, Steps p.tables e below (T86.setTop (mkF m 36 #[.val (.int p0), .val (if (700 : Int32) = p0 then ((.ref v_FLOAT4) : Value) else m8), .val (.ref bb_33), .val (.int (15 : Int32)), .val (.int (8 : Int32)), .val (.ref v_FLOAT4)] [])) t → Steps p.tables e below (s₁.setTop (entryFrame m #[(.int p0)] 6)) t := by
    intro t kt
    refine S87 _ ?_
    by_cases hc30_88 : (700 : Int32) = p0
    case pos =>
      rw [(if_pos hc30_88 : (if (700 : Int32) = p0 then ((.ref v_FLOAT4) : Value) else m8) = (.ref v_FLOAT4))] at kt
      show Steps p.tables e below (T86.setTop (mkF m 30 #[.val (.int p0), .val m8, .val (.ref bb_33), .val (.int (15 : Int32)), .val (.int (8 : Int32)), .val (.ref v_FLOAT4)] [(.int p0), (.int (700 : Int32))])) _
      refine XS.icmpNo X86.here hx rfl (hb hby d2_30) rfl (XT.ii_ne_f hc30_88) ?_
      show Steps p.tables e below (T86.setTop (mkF m 33 #[.val (.int p0), .val m8, .val (.ref bb_33), .val (.int (15 : Int32)), .val (.int (8 : Int32)), .val (.ref v_FLOAT4)] [])) _
      refine XS.aload X86.here hx rfl (hb hby d2_33) rfl rfl ?_
      show Steps p.tables e below (T86.setTop (mkF m 35 #[.val (.int p0), .val m8, .val (.ref bb_33), .val (.int (15 : Int32)), .val (.int (8 : Int32)), .val (.ref v_FLOAT4)] [(.ref v_FLOAT4)])) _
      refine XS.astoreN X86.here hx rfl (hb hby d2_35) rfl rfl (l' := #[.val (.int p0), .val (.ref v_FLOAT4), .val (.ref bb_33), .val (.int (15 : Int32)), .val (.int (8 : Int32)), .val (.ref v_FLOAT4)]) (XS.store1 rfl (Or.inr ⟨_, rfl, (XT.cat1 rf_m8)⟩) rfl) ?_
      exact kt
    case neg =>
      rw [(if_neg hc30_88 : (if (700 : Int32) = p0 then ((.ref v_FLOAT4) : Value) else m8) = m8)] at kt
      show Steps p.tables e below (T86.setTop (mkF m 30 #[.val (.int p0), .val m8, .val (.ref bb_33), .val (.int (15 : Int32)), .val (.int (8 : Int32)), .val (.ref v_FLOAT4)] [(.int p0), (.int (700 : Int32))])) _
      refine XS.icmpYes X86.here hx rfl (pc0 := 30) (pc' := 36) rfl (hb hby d2_30) rfl (XT.ii_ne_t hc30_88) (by decide) (by decide) ?_
      exact kt
  obtain ⟨m9, hd_m9⟩ : ∃ z, z = (if (700 : Int32) = p0 then ((.ref v_FLOAT4) : Value) else m8) := ⟨_, rfl⟩
  rw [← hd_m9] at S89
  have rf_m9 : m9.isRef = true := by rw [hd_m9]; exact (own_ite_ref rfl rf_m8)
  obtain ⟨cl90, Ar90, q90, S_90, N_90, H90, G90⟩ := id f33_1
  have hin90 : ¬ ((9 : Int32) < 0 ∨ cl90.slots.size ≤ ((9 : Int32)).toNatClampNeg) := inb_of S_90 ⟨by decide, by decide⟩
  have hat90 : cl90.slots[((9 : Int32)).toNatClampNeg]? = some (.ref v_FLOAT8) := Has.at H90 hin90 (by rfl)
  have c91 : Fld Z T33.heap v_FLOAT8 "com/example/gatedb/gatedb/pgwire/PgType" "oid" "I" (.int (701 : Int32)) := (Fv_FLOAT8_oid.keep Kq33 List.not_mem_nil)
  obtain ⟨T92, X92, e92, st92⟩ := getF X86 hx hZ hown (host := "") (Or.inl (hw _ (List.mem_of_getElem? (i := 39) rfl))) Via.refl e86 c91 (g := (mkF m 26 #[.val (.int p0), .val m9, .val (.ref bb_33), .val (.int (15 : Int32)), .val (.int (9 : Int32)), .val (.ref v_FLOAT8)] [(.ref v_FLOAT8)])) rfl rfl (hb hby d2_26)
  have S93 : ∀ t, Steps p.tables e below (T92.setTop (mkF m 30 #[.val (.int p0), .val m9, .val (.ref bb_33), .val (.int (15 : Int32)), .val (.int (9 : Int32)), .val (.ref v_FLOAT8)] [(.int p0), (.int (701 : Int32))])) t → Steps p.tables e below (s₁.setTop (entryFrame m #[(.int p0)] 6)) t := by
    intro t kt
    refine S89 _ ?_
    show Steps p.tables e below (T86.setTop (mkF m 36 #[.val (.int p0), .val m9, .val (.ref bb_33), .val (.int (15 : Int32)), .val (.int (8 : Int32)), .val (.ref v_FLOAT4)] [])) _
    refine XS.iinc X86.here hx rfl (hb hby d2_36) rfl (l' := #[.val (.int p0), .val m9, .val (.ref bb_33), .val (.int (15 : Int32)), .val (.int (9 : Int32)), .val (.ref v_FLOAT4)]) rfl ?_
    show Steps p.tables e below (T86.setTop (mkF m 39 #[.val (.int p0), .val m9, .val (.ref bb_33), .val (.int (15 : Int32)), .val (.int (9 : Int32)), .val (.ref v_FLOAT4)] [])) _
    refine XS.goto X86.here hx rfl (pc0 := 39) (pc' := 12) rfl (hb hby d2_39) (by decide) (by decide) ?_
    show Steps p.tables e below (T86.setTop (mkF m 12 #[.val (.int p0), .val m9, .val (.ref bb_33), .val (.int (15 : Int32)), .val (.int (9 : Int32)), .val (.ref v_FLOAT4)] [])) _
    refine XS.iload X86.here hx rfl (hb hby d2_12) rfl ?_
    show Steps p.tables e below (T86.setTop (mkF m 14 #[.val (.int p0), .val m9, .val (.ref bb_33), .val (.int (15 : Int32)), .val (.int (9 : Int32)), .val (.ref v_FLOAT4)] [(.int (9 : Int32))])) _
    refine XS.iloadN X86.here hx rfl (hb hby d2_14) rfl ?_
    show Steps p.tables e below (T86.setTop (mkF m 15 #[.val (.int p0), .val m9, .val (.ref bb_33), .val (.int (15 : Int32)), .val (.int (9 : Int32)), .val (.ref v_FLOAT4)] [(.int (15 : Int32)), (.int (9 : Int32))])) _
    refine XS.icmpNo X86.here hx rfl (hb hby d2_15) rfl (XT.ii_ge_f (by decide)) ?_
    show Steps p.tables e below (T86.setTop (mkF m 18 #[.val (.int p0), .val m9, .val (.ref bb_33), .val (.int (15 : Int32)), .val (.int (9 : Int32)), .val (.ref v_FLOAT4)] [])) _
    refine XS.aloadN X86.here hx rfl (hb hby d2_18) rfl rfl ?_
    show Steps p.tables e below (T86.setTop (mkF m 19 #[.val (.int p0), .val m9, .val (.ref bb_33), .val (.int (15 : Int32)), .val (.int (9 : Int32)), .val (.ref v_FLOAT4)] [(.ref bb_33)])) _
    refine XS.iload X86.here hx rfl (hb hby d2_19) rfl ?_
    show Steps p.tables e below (T86.setTop (mkF m 21 #[.val (.int p0), .val m9, .val (.ref bb_33), .val (.int (15 : Int32)), .val (.int (9 : Int32)), .val (.ref v_FLOAT4)] [(.int (9 : Int32)), (.ref bb_33)])) _
    refine X86.aaload hx (j := (9 : Int32)) (v := (.ref v_FLOAT8)) (by rw [e86]; exact Ar90.1) (State.isArrayOf_alike hZ.alike Ar90.2.1) rfl Ar90.2.2 hin90 hat90 (g := (mkF m 21 #[.val (.int p0), .val m9, .val (.ref bb_33), .val (.int (15 : Int32)), .val (.int (9 : Int32)), .val (.ref v_FLOAT4)] [(.int (9 : Int32)), (.ref bb_33)])) rfl rfl (hb hby d2_21) _ ?_
    show Steps p.tables e below (T86.setTop (mkF m 22 #[.val (.int p0), .val m9, .val (.ref bb_33), .val (.int (15 : Int32)), .val (.int (9 : Int32)), .val (.ref v_FLOAT4)] [(.ref v_FLOAT8)])) _
    refine XS.astore X86.here hx rfl (hb hby d2_22) rfl rfl (l' := #[.val (.int p0), .val m9, .val (.ref bb_33), .val (.int (15 : Int32)), .val (.int (9 : Int32)), .val (.ref v_FLOAT8)]) rfl ?_
    show Steps p.tables e below (T86.setTop (mkF m 24 #[.val (.int p0), .val m9, .val (.ref bb_33), .val (.int (15 : Int32)), .val (.int (9 : Int32)), .val (.ref v_FLOAT8)] [])) _
    refine XS.aload X86.here hx rfl (hb hby d2_24) rfl rfl ?_
    show Steps p.tables e below (T86.setTop (mkF m 26 #[.val (.int p0), .val m9, .val (.ref bb_33), .val (.int (15 : Int32)), .val (.int (9 : Int32)), .val (.ref v_FLOAT8)] [(.ref v_FLOAT8)])) _
    refine st92 _ ?_
    show Steps p.tables e below (T92.setTop (mkF m 29 #[.val (.int p0), .val m9, .val (.ref bb_33), .val (.int (15 : Int32)), .val (.int (9 : Int32)), .val (.ref v_FLOAT8)] [(.int (701 : Int32))])) _
    refine XS.iloadN X92.here hx rfl (hb hby d2_29) rfl ?_
    exact kt
  have S95 : ∀ t, Steps p.tables e below (T92.setTop (mkF m 36 #[.val (.int p0), .val (if (701 : Int32) = p0 then ((.ref v_FLOAT8) : Value) else m9), .val (.ref bb_33), .val (.int (15 : Int32)), .val (.int (9 : Int32)), .val (.ref v_FLOAT8)] [])) t → Steps p.tables e below (s₁.setTop (entryFrame m #[(.int p0)] 6)) t := by
    intro t kt
    refine S93 _ ?_
    by_cases hc30_94 : (701 : Int32) = p0
    case pos =>
      rw [(if_pos hc30_94 : (if (701 : Int32) = p0 then ((.ref v_FLOAT8) : Value) else m9) = (.ref v_FLOAT8))] at kt
      show Steps p.tables e below (T92.setTop (mkF m 30 #[.val (.int p0), .val m9, .val (.ref bb_33), .val (.int (15 : Int32)), .val (.int (9 : Int32)), .val (.ref v_FLOAT8)] [(.int p0), (.int (701 : Int32))])) _
      refine XS.icmpNo X92.here hx rfl (hb hby d2_30) rfl (XT.ii_ne_f hc30_94) ?_
      show Steps p.tables e below (T92.setTop (mkF m 33 #[.val (.int p0), .val m9, .val (.ref bb_33), .val (.int (15 : Int32)), .val (.int (9 : Int32)), .val (.ref v_FLOAT8)] [])) _
      refine XS.aload X92.here hx rfl (hb hby d2_33) rfl rfl ?_
      show Steps p.tables e below (T92.setTop (mkF m 35 #[.val (.int p0), .val m9, .val (.ref bb_33), .val (.int (15 : Int32)), .val (.int (9 : Int32)), .val (.ref v_FLOAT8)] [(.ref v_FLOAT8)])) _
      refine XS.astoreN X92.here hx rfl (hb hby d2_35) rfl rfl (l' := #[.val (.int p0), .val (.ref v_FLOAT8), .val (.ref bb_33), .val (.int (15 : Int32)), .val (.int (9 : Int32)), .val (.ref v_FLOAT8)]) (XS.store1 rfl (Or.inr ⟨_, rfl, (XT.cat1 rf_m9)⟩) rfl) ?_
      exact kt
    case neg =>
      rw [(if_neg hc30_94 : (if (701 : Int32) = p0 then ((.ref v_FLOAT8) : Value) else m9) = m9)] at kt
      show Steps p.tables e below (T92.setTop (mkF m 30 #[.val (.int p0), .val m9, .val (.ref bb_33), .val (.int (15 : Int32)), .val (.int (9 : Int32)), .val (.ref v_FLOAT8)] [(.int p0), (.int (701 : Int32))])) _
      refine XS.icmpYes X92.here hx rfl (pc0 := 30) (pc' := 36) rfl (hb hby d2_30) rfl (XT.ii_ne_t hc30_94) (by decide) (by decide) ?_
      exact kt
  obtain ⟨m10, hd_m10⟩ : ∃ z, z = (if (701 : Int32) = p0 then ((.ref v_FLOAT8) : Value) else m9) := ⟨_, rfl⟩
  rw [← hd_m10] at S95
  have rf_m10 : m10.isRef = true := by rw [hd_m10]; exact (own_ite_ref rfl rf_m9)
  obtain ⟨cl96, Ar96, q96, S_96, N_96, H96, G96⟩ := id f33_1
  have hin96 : ¬ ((10 : Int32) < 0 ∨ cl96.slots.size ≤ ((10 : Int32)).toNatClampNeg) := inb_of S_96 ⟨by decide, by decide⟩
  have hat96 : cl96.slots[((10 : Int32)).toNatClampNeg]? = some (.ref v_NUMERIC) := Has.at H96 hin96 (by rfl)
  have c97 : Fld Z T33.heap v_NUMERIC "com/example/gatedb/gatedb/pgwire/PgType" "oid" "I" (.int (1700 : Int32)) := (Fv_NUMERIC_oid.keep Kq33 List.not_mem_nil)
  obtain ⟨T98, X98, e98, st98⟩ := getF X92 hx hZ hown (host := "") (Or.inl (hw _ (List.mem_of_getElem? (i := 39) rfl))) Via.refl e92 c97 (g := (mkF m 26 #[.val (.int p0), .val m10, .val (.ref bb_33), .val (.int (15 : Int32)), .val (.int (10 : Int32)), .val (.ref v_NUMERIC)] [(.ref v_NUMERIC)])) rfl rfl (hb hby d2_26)
  have S99 : ∀ t, Steps p.tables e below (T98.setTop (mkF m 30 #[.val (.int p0), .val m10, .val (.ref bb_33), .val (.int (15 : Int32)), .val (.int (10 : Int32)), .val (.ref v_NUMERIC)] [(.int p0), (.int (1700 : Int32))])) t → Steps p.tables e below (s₁.setTop (entryFrame m #[(.int p0)] 6)) t := by
    intro t kt
    refine S95 _ ?_
    show Steps p.tables e below (T92.setTop (mkF m 36 #[.val (.int p0), .val m10, .val (.ref bb_33), .val (.int (15 : Int32)), .val (.int (9 : Int32)), .val (.ref v_FLOAT8)] [])) _
    refine XS.iinc X92.here hx rfl (hb hby d2_36) rfl (l' := #[.val (.int p0), .val m10, .val (.ref bb_33), .val (.int (15 : Int32)), .val (.int (10 : Int32)), .val (.ref v_FLOAT8)]) rfl ?_
    show Steps p.tables e below (T92.setTop (mkF m 39 #[.val (.int p0), .val m10, .val (.ref bb_33), .val (.int (15 : Int32)), .val (.int (10 : Int32)), .val (.ref v_FLOAT8)] [])) _
    refine XS.goto X92.here hx rfl (pc0 := 39) (pc' := 12) rfl (hb hby d2_39) (by decide) (by decide) ?_
    show Steps p.tables e below (T92.setTop (mkF m 12 #[.val (.int p0), .val m10, .val (.ref bb_33), .val (.int (15 : Int32)), .val (.int (10 : Int32)), .val (.ref v_FLOAT8)] [])) _
    refine XS.iload X92.here hx rfl (hb hby d2_12) rfl ?_
    show Steps p.tables e below (T92.setTop (mkF m 14 #[.val (.int p0), .val m10, .val (.ref bb_33), .val (.int (15 : Int32)), .val (.int (10 : Int32)), .val (.ref v_FLOAT8)] [(.int (10 : Int32))])) _
    refine XS.iloadN X92.here hx rfl (hb hby d2_14) rfl ?_
    show Steps p.tables e below (T92.setTop (mkF m 15 #[.val (.int p0), .val m10, .val (.ref bb_33), .val (.int (15 : Int32)), .val (.int (10 : Int32)), .val (.ref v_FLOAT8)] [(.int (15 : Int32)), (.int (10 : Int32))])) _
    refine XS.icmpNo X92.here hx rfl (hb hby d2_15) rfl (XT.ii_ge_f (by decide)) ?_
    show Steps p.tables e below (T92.setTop (mkF m 18 #[.val (.int p0), .val m10, .val (.ref bb_33), .val (.int (15 : Int32)), .val (.int (10 : Int32)), .val (.ref v_FLOAT8)] [])) _
    refine XS.aloadN X92.here hx rfl (hb hby d2_18) rfl rfl ?_
    show Steps p.tables e below (T92.setTop (mkF m 19 #[.val (.int p0), .val m10, .val (.ref bb_33), .val (.int (15 : Int32)), .val (.int (10 : Int32)), .val (.ref v_FLOAT8)] [(.ref bb_33)])) _
    refine XS.iload X92.here hx rfl (hb hby d2_19) rfl ?_
    show Steps p.tables e below (T92.setTop (mkF m 21 #[.val (.int p0), .val m10, .val (.ref bb_33), .val (.int (15 : Int32)), .val (.int (10 : Int32)), .val (.ref v_FLOAT8)] [(.int (10 : Int32)), (.ref bb_33)])) _
    refine X92.aaload hx (j := (10 : Int32)) (v := (.ref v_NUMERIC)) (by rw [e92]; exact Ar96.1) (State.isArrayOf_alike hZ.alike Ar96.2.1) rfl Ar96.2.2 hin96 hat96 (g := (mkF m 21 #[.val (.int p0), .val m10, .val (.ref bb_33), .val (.int (15 : Int32)), .val (.int (10 : Int32)), .val (.ref v_FLOAT8)] [(.int (10 : Int32)), (.ref bb_33)])) rfl rfl (hb hby d2_21) _ ?_
    show Steps p.tables e below (T92.setTop (mkF m 22 #[.val (.int p0), .val m10, .val (.ref bb_33), .val (.int (15 : Int32)), .val (.int (10 : Int32)), .val (.ref v_FLOAT8)] [(.ref v_NUMERIC)])) _
    refine XS.astore X92.here hx rfl (hb hby d2_22) rfl rfl (l' := #[.val (.int p0), .val m10, .val (.ref bb_33), .val (.int (15 : Int32)), .val (.int (10 : Int32)), .val (.ref v_NUMERIC)]) rfl ?_
    show Steps p.tables e below (T92.setTop (mkF m 24 #[.val (.int p0), .val m10, .val (.ref bb_33), .val (.int (15 : Int32)), .val (.int (10 : Int32)), .val (.ref v_NUMERIC)] [])) _
    refine XS.aload X92.here hx rfl (hb hby d2_24) rfl rfl ?_
    show Steps p.tables e below (T92.setTop (mkF m 26 #[.val (.int p0), .val m10, .val (.ref bb_33), .val (.int (15 : Int32)), .val (.int (10 : Int32)), .val (.ref v_NUMERIC)] [(.ref v_NUMERIC)])) _
    refine st98 _ ?_
    show Steps p.tables e below (T98.setTop (mkF m 29 #[.val (.int p0), .val m10, .val (.ref bb_33), .val (.int (15 : Int32)), .val (.int (10 : Int32)), .val (.ref v_NUMERIC)] [(.int (1700 : Int32))])) _
    refine XS.iloadN X98.here hx rfl (hb hby d2_29) rfl ?_
    exact kt
  have S101 : ∀ t, Steps p.tables e below (T98.setTop (mkF m 36 #[.val (.int p0), .val (if (1700 : Int32) = p0 then ((.ref v_NUMERIC) : Value) else m10), .val (.ref bb_33), .val (.int (15 : Int32)), .val (.int (10 : Int32)), .val (.ref v_NUMERIC)] [])) t → Steps p.tables e below (s₁.setTop (entryFrame m #[(.int p0)] 6)) t := by
    intro t kt
    refine S99 _ ?_
    by_cases hc30_100 : (1700 : Int32) = p0
    case pos =>
      rw [(if_pos hc30_100 : (if (1700 : Int32) = p0 then ((.ref v_NUMERIC) : Value) else m10) = (.ref v_NUMERIC))] at kt
      show Steps p.tables e below (T98.setTop (mkF m 30 #[.val (.int p0), .val m10, .val (.ref bb_33), .val (.int (15 : Int32)), .val (.int (10 : Int32)), .val (.ref v_NUMERIC)] [(.int p0), (.int (1700 : Int32))])) _
      refine XS.icmpNo X98.here hx rfl (hb hby d2_30) rfl (XT.ii_ne_f hc30_100) ?_
      show Steps p.tables e below (T98.setTop (mkF m 33 #[.val (.int p0), .val m10, .val (.ref bb_33), .val (.int (15 : Int32)), .val (.int (10 : Int32)), .val (.ref v_NUMERIC)] [])) _
      refine XS.aload X98.here hx rfl (hb hby d2_33) rfl rfl ?_
      show Steps p.tables e below (T98.setTop (mkF m 35 #[.val (.int p0), .val m10, .val (.ref bb_33), .val (.int (15 : Int32)), .val (.int (10 : Int32)), .val (.ref v_NUMERIC)] [(.ref v_NUMERIC)])) _
      refine XS.astoreN X98.here hx rfl (hb hby d2_35) rfl rfl (l' := #[.val (.int p0), .val (.ref v_NUMERIC), .val (.ref bb_33), .val (.int (15 : Int32)), .val (.int (10 : Int32)), .val (.ref v_NUMERIC)]) (XS.store1 rfl (Or.inr ⟨_, rfl, (XT.cat1 rf_m10)⟩) rfl) ?_
      exact kt
    case neg =>
      rw [(if_neg hc30_100 : (if (1700 : Int32) = p0 then ((.ref v_NUMERIC) : Value) else m10) = m10)] at kt
      show Steps p.tables e below (T98.setTop (mkF m 30 #[.val (.int p0), .val m10, .val (.ref bb_33), .val (.int (15 : Int32)), .val (.int (10 : Int32)), .val (.ref v_NUMERIC)] [(.int p0), (.int (1700 : Int32))])) _
      refine XS.icmpYes X98.here hx rfl (pc0 := 30) (pc' := 36) rfl (hb hby d2_30) rfl (XT.ii_ne_t hc30_100) (by decide) (by decide) ?_
      exact kt
  obtain ⟨m11, hd_m11⟩ : ∃ z, z = (if (1700 : Int32) = p0 then ((.ref v_NUMERIC) : Value) else m10) := ⟨_, rfl⟩
  rw [← hd_m11] at S101
  have rf_m11 : m11.isRef = true := by rw [hd_m11]; exact (own_ite_ref rfl rf_m10)
  obtain ⟨cl102, Ar102, q102, S_102, N_102, H102, G102⟩ := id f33_1
  have hin102 : ¬ ((11 : Int32) < 0 ∨ cl102.slots.size ≤ ((11 : Int32)).toNatClampNeg) := inb_of S_102 ⟨by decide, by decide⟩
  have hat102 : cl102.slots[((11 : Int32)).toNatClampNeg]? = some (.ref v_DATE) := Has.at H102 hin102 (by rfl)
  have c103 : Fld Z T33.heap v_DATE "com/example/gatedb/gatedb/pgwire/PgType" "oid" "I" (.int (1082 : Int32)) := (Fv_DATE_oid.keep Kq33 List.not_mem_nil)
  obtain ⟨T104, X104, e104, st104⟩ := getF X98 hx hZ hown (host := "") (Or.inl (hw _ (List.mem_of_getElem? (i := 39) rfl))) Via.refl e98 c103 (g := (mkF m 26 #[.val (.int p0), .val m11, .val (.ref bb_33), .val (.int (15 : Int32)), .val (.int (11 : Int32)), .val (.ref v_DATE)] [(.ref v_DATE)])) rfl rfl (hb hby d2_26)
  have S105 : ∀ t, Steps p.tables e below (T104.setTop (mkF m 30 #[.val (.int p0), .val m11, .val (.ref bb_33), .val (.int (15 : Int32)), .val (.int (11 : Int32)), .val (.ref v_DATE)] [(.int p0), (.int (1082 : Int32))])) t → Steps p.tables e below (s₁.setTop (entryFrame m #[(.int p0)] 6)) t := by
    intro t kt
    refine S101 _ ?_
    show Steps p.tables e below (T98.setTop (mkF m 36 #[.val (.int p0), .val m11, .val (.ref bb_33), .val (.int (15 : Int32)), .val (.int (10 : Int32)), .val (.ref v_NUMERIC)] [])) _
    refine XS.iinc X98.here hx rfl (hb hby d2_36) rfl (l' := #[.val (.int p0), .val m11, .val (.ref bb_33), .val (.int (15 : Int32)), .val (.int (11 : Int32)), .val (.ref v_NUMERIC)]) rfl ?_
    show Steps p.tables e below (T98.setTop (mkF m 39 #[.val (.int p0), .val m11, .val (.ref bb_33), .val (.int (15 : Int32)), .val (.int (11 : Int32)), .val (.ref v_NUMERIC)] [])) _
    refine XS.goto X98.here hx rfl (pc0 := 39) (pc' := 12) rfl (hb hby d2_39) (by decide) (by decide) ?_
    show Steps p.tables e below (T98.setTop (mkF m 12 #[.val (.int p0), .val m11, .val (.ref bb_33), .val (.int (15 : Int32)), .val (.int (11 : Int32)), .val (.ref v_NUMERIC)] [])) _
    refine XS.iload X98.here hx rfl (hb hby d2_12) rfl ?_
    show Steps p.tables e below (T98.setTop (mkF m 14 #[.val (.int p0), .val m11, .val (.ref bb_33), .val (.int (15 : Int32)), .val (.int (11 : Int32)), .val (.ref v_NUMERIC)] [(.int (11 : Int32))])) _
    refine XS.iloadN X98.here hx rfl (hb hby d2_14) rfl ?_
    show Steps p.tables e below (T98.setTop (mkF m 15 #[.val (.int p0), .val m11, .val (.ref bb_33), .val (.int (15 : Int32)), .val (.int (11 : Int32)), .val (.ref v_NUMERIC)] [(.int (15 : Int32)), (.int (11 : Int32))])) _
    refine XS.icmpNo X98.here hx rfl (hb hby d2_15) rfl (XT.ii_ge_f (by decide)) ?_
    show Steps p.tables e below (T98.setTop (mkF m 18 #[.val (.int p0), .val m11, .val (.ref bb_33), .val (.int (15 : Int32)), .val (.int (11 : Int32)), .val (.ref v_NUMERIC)] [])) _
    refine XS.aloadN X98.here hx rfl (hb hby d2_18) rfl rfl ?_
    show Steps p.tables e below (T98.setTop (mkF m 19 #[.val (.int p0), .val m11, .val (.ref bb_33), .val (.int (15 : Int32)), .val (.int (11 : Int32)), .val (.ref v_NUMERIC)] [(.ref bb_33)])) _
    refine XS.iload X98.here hx rfl (hb hby d2_19) rfl ?_
    show Steps p.tables e below (T98.setTop (mkF m 21 #[.val (.int p0), .val m11, .val (.ref bb_33), .val (.int (15 : Int32)), .val (.int (11 : Int32)), .val (.ref v_NUMERIC)] [(.int (11 : Int32)), (.ref bb_33)])) _
    refine X98.aaload hx (j := (11 : Int32)) (v := (.ref v_DATE)) (by rw [e98]; exact Ar102.1) (State.isArrayOf_alike hZ.alike Ar102.2.1) rfl Ar102.2.2 hin102 hat102 (g := (mkF m 21 #[.val (.int p0), .val m11, .val (.ref bb_33), .val (.int (15 : Int32)), .val (.int (11 : Int32)), .val (.ref v_NUMERIC)] [(.int (11 : Int32)), (.ref bb_33)])) rfl rfl (hb hby d2_21) _ ?_
    show Steps p.tables e below (T98.setTop (mkF m 22 #[.val (.int p0), .val m11, .val (.ref bb_33), .val (.int (15 : Int32)), .val (.int (11 : Int32)), .val (.ref v_NUMERIC)] [(.ref v_DATE)])) _
    refine XS.astore X98.here hx rfl (hb hby d2_22) rfl rfl (l' := #[.val (.int p0), .val m11, .val (.ref bb_33), .val (.int (15 : Int32)), .val (.int (11 : Int32)), .val (.ref v_DATE)]) rfl ?_
    show Steps p.tables e below (T98.setTop (mkF m 24 #[.val (.int p0), .val m11, .val (.ref bb_33), .val (.int (15 : Int32)), .val (.int (11 : Int32)), .val (.ref v_DATE)] [])) _
    refine XS.aload X98.here hx rfl (hb hby d2_24) rfl rfl ?_
    show Steps p.tables e below (T98.setTop (mkF m 26 #[.val (.int p0), .val m11, .val (.ref bb_33), .val (.int (15 : Int32)), .val (.int (11 : Int32)), .val (.ref v_DATE)] [(.ref v_DATE)])) _
    refine st104 _ ?_
    show Steps p.tables e below (T104.setTop (mkF m 29 #[.val (.int p0), .val m11, .val (.ref bb_33), .val (.int (15 : Int32)), .val (.int (11 : Int32)), .val (.ref v_DATE)] [(.int (1082 : Int32))])) _
    refine XS.iloadN X104.here hx rfl (hb hby d2_29) rfl ?_
    exact kt
  have S107 : ∀ t, Steps p.tables e below (T104.setTop (mkF m 36 #[.val (.int p0), .val (if (1082 : Int32) = p0 then ((.ref v_DATE) : Value) else m11), .val (.ref bb_33), .val (.int (15 : Int32)), .val (.int (11 : Int32)), .val (.ref v_DATE)] [])) t → Steps p.tables e below (s₁.setTop (entryFrame m #[(.int p0)] 6)) t := by
    intro t kt
    refine S105 _ ?_
    by_cases hc30_106 : (1082 : Int32) = p0
    case pos =>
      rw [(if_pos hc30_106 : (if (1082 : Int32) = p0 then ((.ref v_DATE) : Value) else m11) = (.ref v_DATE))] at kt
      show Steps p.tables e below (T104.setTop (mkF m 30 #[.val (.int p0), .val m11, .val (.ref bb_33), .val (.int (15 : Int32)), .val (.int (11 : Int32)), .val (.ref v_DATE)] [(.int p0), (.int (1082 : Int32))])) _
      refine XS.icmpNo X104.here hx rfl (hb hby d2_30) rfl (XT.ii_ne_f hc30_106) ?_
      show Steps p.tables e below (T104.setTop (mkF m 33 #[.val (.int p0), .val m11, .val (.ref bb_33), .val (.int (15 : Int32)), .val (.int (11 : Int32)), .val (.ref v_DATE)] [])) _
      refine XS.aload X104.here hx rfl (hb hby d2_33) rfl rfl ?_
      show Steps p.tables e below (T104.setTop (mkF m 35 #[.val (.int p0), .val m11, .val (.ref bb_33), .val (.int (15 : Int32)), .val (.int (11 : Int32)), .val (.ref v_DATE)] [(.ref v_DATE)])) _
      refine XS.astoreN X104.here hx rfl (hb hby d2_35) rfl rfl (l' := #[.val (.int p0), .val (.ref v_DATE), .val (.ref bb_33), .val (.int (15 : Int32)), .val (.int (11 : Int32)), .val (.ref v_DATE)]) (XS.store1 rfl (Or.inr ⟨_, rfl, (XT.cat1 rf_m11)⟩) rfl) ?_
      exact kt
    case neg =>
      rw [(if_neg hc30_106 : (if (1082 : Int32) = p0 then ((.ref v_DATE) : Value) else m11) = m11)] at kt
      show Steps p.tables e below (T104.setTop (mkF m 30 #[.val (.int p0), .val m11, .val (.ref bb_33), .val (.int (15 : Int32)), .val (.int (11 : Int32)), .val (.ref v_DATE)] [(.int p0), (.int (1082 : Int32))])) _
      refine XS.icmpYes X104.here hx rfl (pc0 := 30) (pc' := 36) rfl (hb hby d2_30) rfl (XT.ii_ne_t hc30_106) (by decide) (by decide) ?_
      exact kt
  obtain ⟨m12, hd_m12⟩ : ∃ z, z = (if (1082 : Int32) = p0 then ((.ref v_DATE) : Value) else m11) := ⟨_, rfl⟩
  rw [← hd_m12] at S107
  have rf_m12 : m12.isRef = true := by rw [hd_m12]; exact (own_ite_ref rfl rf_m11)
  obtain ⟨cl108, Ar108, q108, S_108, N_108, H108, G108⟩ := id f33_1
  have hin108 : ¬ ((12 : Int32) < 0 ∨ cl108.slots.size ≤ ((12 : Int32)).toNatClampNeg) := inb_of S_108 ⟨by decide, by decide⟩
  have hat108 : cl108.slots[((12 : Int32)).toNatClampNeg]? = some (.ref v_TIME) := Has.at H108 hin108 (by rfl)
  have c109 : Fld Z T33.heap v_TIME "com/example/gatedb/gatedb/pgwire/PgType" "oid" "I" (.int (1083 : Int32)) := (Fv_TIME_oid.keep Kq33 List.not_mem_nil)
  obtain ⟨T110, X110, e110, st110⟩ := getF X104 hx hZ hown (host := "") (Or.inl (hw _ (List.mem_of_getElem? (i := 39) rfl))) Via.refl e104 c109 (g := (mkF m 26 #[.val (.int p0), .val m12, .val (.ref bb_33), .val (.int (15 : Int32)), .val (.int (12 : Int32)), .val (.ref v_TIME)] [(.ref v_TIME)])) rfl rfl (hb hby d2_26)
  have S111 : ∀ t, Steps p.tables e below (T110.setTop (mkF m 30 #[.val (.int p0), .val m12, .val (.ref bb_33), .val (.int (15 : Int32)), .val (.int (12 : Int32)), .val (.ref v_TIME)] [(.int p0), (.int (1083 : Int32))])) t → Steps p.tables e below (s₁.setTop (entryFrame m #[(.int p0)] 6)) t := by
    intro t kt
    refine S107 _ ?_
    show Steps p.tables e below (T104.setTop (mkF m 36 #[.val (.int p0), .val m12, .val (.ref bb_33), .val (.int (15 : Int32)), .val (.int (11 : Int32)), .val (.ref v_DATE)] [])) _
    refine XS.iinc X104.here hx rfl (hb hby d2_36) rfl (l' := #[.val (.int p0), .val m12, .val (.ref bb_33), .val (.int (15 : Int32)), .val (.int (12 : Int32)), .val (.ref v_DATE)]) rfl ?_
    show Steps p.tables e below (T104.setTop (mkF m 39 #[.val (.int p0), .val m12, .val (.ref bb_33), .val (.int (15 : Int32)), .val (.int (12 : Int32)), .val (.ref v_DATE)] [])) _
    refine XS.goto X104.here hx rfl (pc0 := 39) (pc' := 12) rfl (hb hby d2_39) (by decide) (by decide) ?_
    show Steps p.tables e below (T104.setTop (mkF m 12 #[.val (.int p0), .val m12, .val (.ref bb_33), .val (.int (15 : Int32)), .val (.int (12 : Int32)), .val (.ref v_DATE)] [])) _
    refine XS.iload X104.here hx rfl (hb hby d2_12) rfl ?_
    show Steps p.tables e below (T104.setTop (mkF m 14 #[.val (.int p0), .val m12, .val (.ref bb_33), .val (.int (15 : Int32)), .val (.int (12 : Int32)), .val (.ref v_DATE)] [(.int (12 : Int32))])) _
    refine XS.iloadN X104.here hx rfl (hb hby d2_14) rfl ?_
    show Steps p.tables e below (T104.setTop (mkF m 15 #[.val (.int p0), .val m12, .val (.ref bb_33), .val (.int (15 : Int32)), .val (.int (12 : Int32)), .val (.ref v_DATE)] [(.int (15 : Int32)), (.int (12 : Int32))])) _
    refine XS.icmpNo X104.here hx rfl (hb hby d2_15) rfl (XT.ii_ge_f (by decide)) ?_
    show Steps p.tables e below (T104.setTop (mkF m 18 #[.val (.int p0), .val m12, .val (.ref bb_33), .val (.int (15 : Int32)), .val (.int (12 : Int32)), .val (.ref v_DATE)] [])) _
    refine XS.aloadN X104.here hx rfl (hb hby d2_18) rfl rfl ?_
    show Steps p.tables e below (T104.setTop (mkF m 19 #[.val (.int p0), .val m12, .val (.ref bb_33), .val (.int (15 : Int32)), .val (.int (12 : Int32)), .val (.ref v_DATE)] [(.ref bb_33)])) _
    refine XS.iload X104.here hx rfl (hb hby d2_19) rfl ?_
    show Steps p.tables e below (T104.setTop (mkF m 21 #[.val (.int p0), .val m12, .val (.ref bb_33), .val (.int (15 : Int32)), .val (.int (12 : Int32)), .val (.ref v_DATE)] [(.int (12 : Int32)), (.ref bb_33)])) _
    refine X104.aaload hx (j := (12 : Int32)) (v := (.ref v_TIME)) (by rw [e104]; exact Ar108.1) (State.isArrayOf_alike hZ.alike Ar108.2.1) rfl Ar108.2.2 hin108 hat108 (g := (mkF m 21 #[.val (.int p0), .val m12, .val (.ref bb_33), .val (.int (15 : Int32)), .val (.int (12 : Int32)), .val (.ref v_DATE)] [(.int (12 : Int32)), (.ref bb_33)])) rfl rfl (hb hby d2_21) _ ?_
    show Steps p.tables e below (T104.setTop (mkF m 22 #[.val (.int p0), .val m12, .val (.ref bb_33), .val (.int (15 : Int32)), .val (.int (12 : Int32)), .val (.ref v_DATE)] [(.ref v_TIME)])) _
    refine XS.astore X104.here hx rfl (hb hby d2_22) rfl rfl (l' := #[.val (.int p0), .val m12, .val (.ref bb_33), .val (.int (15 : Int32)), .val (.int (12 : Int32)), .val (.ref v_TIME)]) rfl ?_
    show Steps p.tables e below (T104.setTop (mkF m 24 #[.val (.int p0), .val m12, .val (.ref bb_33), .val (.int (15 : Int32)), .val (.int (12 : Int32)), .val (.ref v_TIME)] [])) _
    refine XS.aload X104.here hx rfl (hb hby d2_24) rfl rfl ?_
    show Steps p.tables e below (T104.setTop (mkF m 26 #[.val (.int p0), .val m12, .val (.ref bb_33), .val (.int (15 : Int32)), .val (.int (12 : Int32)), .val (.ref v_TIME)] [(.ref v_TIME)])) _
    refine st110 _ ?_
    show Steps p.tables e below (T110.setTop (mkF m 29 #[.val (.int p0), .val m12, .val (.ref bb_33), .val (.int (15 : Int32)), .val (.int (12 : Int32)), .val (.ref v_TIME)] [(.int (1083 : Int32))])) _
    refine XS.iloadN X110.here hx rfl (hb hby d2_29) rfl ?_
    exact kt
  have S113 : ∀ t, Steps p.tables e below (T110.setTop (mkF m 36 #[.val (.int p0), .val (if (1083 : Int32) = p0 then ((.ref v_TIME) : Value) else m12), .val (.ref bb_33), .val (.int (15 : Int32)), .val (.int (12 : Int32)), .val (.ref v_TIME)] [])) t → Steps p.tables e below (s₁.setTop (entryFrame m #[(.int p0)] 6)) t := by
    intro t kt
    refine S111 _ ?_
    by_cases hc30_112 : (1083 : Int32) = p0
    case pos =>
      rw [(if_pos hc30_112 : (if (1083 : Int32) = p0 then ((.ref v_TIME) : Value) else m12) = (.ref v_TIME))] at kt
      show Steps p.tables e below (T110.setTop (mkF m 30 #[.val (.int p0), .val m12, .val (.ref bb_33), .val (.int (15 : Int32)), .val (.int (12 : Int32)), .val (.ref v_TIME)] [(.int p0), (.int (1083 : Int32))])) _
      refine XS.icmpNo X110.here hx rfl (hb hby d2_30) rfl (XT.ii_ne_f hc30_112) ?_
      show Steps p.tables e below (T110.setTop (mkF m 33 #[.val (.int p0), .val m12, .val (.ref bb_33), .val (.int (15 : Int32)), .val (.int (12 : Int32)), .val (.ref v_TIME)] [])) _
      refine XS.aload X110.here hx rfl (hb hby d2_33) rfl rfl ?_
      show Steps p.tables e below (T110.setTop (mkF m 35 #[.val (.int p0), .val m12, .val (.ref bb_33), .val (.int (15 : Int32)), .val (.int (12 : Int32)), .val (.ref v_TIME)] [(.ref v_TIME)])) _
      refine XS.astoreN X110.here hx rfl (hb hby d2_35) rfl rfl (l' := #[.val (.int p0), .val (.ref v_TIME), .val (.ref bb_33), .val (.int (15 : Int32)), .val (.int (12 : Int32)), .val (.ref v_TIME)]) (XS.store1 rfl (Or.inr ⟨_, rfl, (XT.cat1 rf_m12)⟩) rfl) ?_
      exact kt
    case neg =>
      rw [(if_neg hc30_112 : (if (1083 : Int32) = p0 then ((.ref v_TIME) : Value) else m12) = m12)] at kt
      show Steps p.tables e below (T110.setTop (mkF m 30 #[.val (.int p0), .val m12, .val (.ref bb_33), .val (.int (15 : Int32)), .val (.int (12 : Int32)), .val (.ref v_TIME)] [(.int p0), (.int (1083 : Int32))])) _
      refine XS.icmpYes X110.here hx rfl (pc0 := 30) (pc' := 36) rfl (hb hby d2_30) rfl (XT.ii_ne_t hc30_112) (by decide) (by decide) ?_
      exact kt
  obtain ⟨m13, hd_m13⟩ : ∃ z, z = (if (1083 : Int32) = p0 then ((.ref v_TIME) : Value) else m12) := ⟨_, rfl⟩
  rw [← hd_m13] at S113
  have rf_m13 : m13.isRef = true := by rw [hd_m13]; exact (own_ite_ref rfl rf_m12)
  obtain ⟨cl114, Ar114, q114, S_114, N_114, H114, G114⟩ := id f33_1
  have hin114 : ¬ ((13 : Int32) < 0 ∨ cl114.slots.size ≤ ((13 : Int32)).toNatClampNeg) := inb_of S_114 ⟨by decide, by decide⟩
  have hat114 : cl114.slots[((13 : Int32)).toNatClampNeg]? = some (.ref v_TIMESTAMP) := Has.at H114 hin114 (by rfl)
  have c115 : Fld Z T33.heap v_TIMESTAMP "com/example/gatedb/gatedb/pgwire/PgType" "oid" "I" (.int (1114 : Int32)) := (Fv_TIMESTAMP_oid.keep Kq33 List.not_mem_nil)
  obtain ⟨T116, X116, e116, st116⟩ := getF X110 hx hZ hown (host := "") (Or.inl (hw _ (List.mem_of_getElem? (i := 39) rfl))) Via.refl e110 c115 (g := (mkF m 26 #[.val (.int p0), .val m13, .val (.ref bb_33), .val (.int (15 : Int32)), .val (.int (13 : Int32)), .val (.ref v_TIMESTAMP)] [(.ref v_TIMESTAMP)])) rfl rfl (hb hby d2_26)
  have S117 : ∀ t, Steps p.tables e below (T116.setTop (mkF m 30 #[.val (.int p0), .val m13, .val (.ref bb_33), .val (.int (15 : Int32)), .val (.int (13 : Int32)), .val (.ref v_TIMESTAMP)] [(.int p0), (.int (1114 : Int32))])) t → Steps p.tables e below (s₁.setTop (entryFrame m #[(.int p0)] 6)) t := by
    intro t kt
    refine S113 _ ?_
    show Steps p.tables e below (T110.setTop (mkF m 36 #[.val (.int p0), .val m13, .val (.ref bb_33), .val (.int (15 : Int32)), .val (.int (12 : Int32)), .val (.ref v_TIME)] [])) _
    refine XS.iinc X110.here hx rfl (hb hby d2_36) rfl (l' := #[.val (.int p0), .val m13, .val (.ref bb_33), .val (.int (15 : Int32)), .val (.int (13 : Int32)), .val (.ref v_TIME)]) rfl ?_
    show Steps p.tables e below (T110.setTop (mkF m 39 #[.val (.int p0), .val m13, .val (.ref bb_33), .val (.int (15 : Int32)), .val (.int (13 : Int32)), .val (.ref v_TIME)] [])) _
    refine XS.goto X110.here hx rfl (pc0 := 39) (pc' := 12) rfl (hb hby d2_39) (by decide) (by decide) ?_
    show Steps p.tables e below (T110.setTop (mkF m 12 #[.val (.int p0), .val m13, .val (.ref bb_33), .val (.int (15 : Int32)), .val (.int (13 : Int32)), .val (.ref v_TIME)] [])) _
    refine XS.iload X110.here hx rfl (hb hby d2_12) rfl ?_
    show Steps p.tables e below (T110.setTop (mkF m 14 #[.val (.int p0), .val m13, .val (.ref bb_33), .val (.int (15 : Int32)), .val (.int (13 : Int32)), .val (.ref v_TIME)] [(.int (13 : Int32))])) _
    refine XS.iloadN X110.here hx rfl (hb hby d2_14) rfl ?_
    show Steps p.tables e below (T110.setTop (mkF m 15 #[.val (.int p0), .val m13, .val (.ref bb_33), .val (.int (15 : Int32)), .val (.int (13 : Int32)), .val (.ref v_TIME)] [(.int (15 : Int32)), (.int (13 : Int32))])) _
    refine XS.icmpNo X110.here hx rfl (hb hby d2_15) rfl (XT.ii_ge_f (by decide)) ?_
    show Steps p.tables e below (T110.setTop (mkF m 18 #[.val (.int p0), .val m13, .val (.ref bb_33), .val (.int (15 : Int32)), .val (.int (13 : Int32)), .val (.ref v_TIME)] [])) _
    refine XS.aloadN X110.here hx rfl (hb hby d2_18) rfl rfl ?_
    show Steps p.tables e below (T110.setTop (mkF m 19 #[.val (.int p0), .val m13, .val (.ref bb_33), .val (.int (15 : Int32)), .val (.int (13 : Int32)), .val (.ref v_TIME)] [(.ref bb_33)])) _
    refine XS.iload X110.here hx rfl (hb hby d2_19) rfl ?_
    show Steps p.tables e below (T110.setTop (mkF m 21 #[.val (.int p0), .val m13, .val (.ref bb_33), .val (.int (15 : Int32)), .val (.int (13 : Int32)), .val (.ref v_TIME)] [(.int (13 : Int32)), (.ref bb_33)])) _
    refine X110.aaload hx (j := (13 : Int32)) (v := (.ref v_TIMESTAMP)) (by rw [e110]; exact Ar114.1) (State.isArrayOf_alike hZ.alike Ar114.2.1) rfl Ar114.2.2 hin114 hat114 (g := (mkF m 21 #[.val (.int p0), .val m13, .val (.ref bb_33), .val (.int (15 : Int32)), .val (.int (13 : Int32)), .val (.ref v_TIME)] [(.int (13 : Int32)), (.ref bb_33)])) rfl rfl (hb hby d2_21) _ ?_
    show Steps p.tables e below (T110.setTop (mkF m 22 #[.val (.int p0), .val m13, .val (.ref bb_33), .val (.int (15 : Int32)), .val (.int (13 : Int32)), .val (.ref v_TIME)] [(.ref v_TIMESTAMP)])) _
    refine XS.astore X110.here hx rfl (hb hby d2_22) rfl rfl (l' := #[.val (.int p0), .val m13, .val (.ref bb_33), .val (.int (15 : Int32)), .val (.int (13 : Int32)), .val (.ref v_TIMESTAMP)]) rfl ?_
    show Steps p.tables e below (T110.setTop (mkF m 24 #[.val (.int p0), .val m13, .val (.ref bb_33), .val (.int (15 : Int32)), .val (.int (13 : Int32)), .val (.ref v_TIMESTAMP)] [])) _
    refine XS.aload X110.here hx rfl (hb hby d2_24) rfl rfl ?_
    show Steps p.tables e below (T110.setTop (mkF m 26 #[.val (.int p0), .val m13, .val (.ref bb_33), .val (.int (15 : Int32)), .val (.int (13 : Int32)), .val (.ref v_TIMESTAMP)] [(.ref v_TIMESTAMP)])) _
    refine st116 _ ?_
    show Steps p.tables e below (T116.setTop (mkF m 29 #[.val (.int p0), .val m13, .val (.ref bb_33), .val (.int (15 : Int32)), .val (.int (13 : Int32)), .val (.ref v_TIMESTAMP)] [(.int (1114 : Int32))])) _
    refine XS.iloadN X116.here hx rfl (hb hby d2_29) rfl ?_
    exact kt
  have S119 : ∀ t, Steps p.tables e below (T116.setTop (mkF m 36 #[.val (.int p0), .val (if (1114 : Int32) = p0 then ((.ref v_TIMESTAMP) : Value) else m13), .val (.ref bb_33), .val (.int (15 : Int32)), .val (.int (13 : Int32)), .val (.ref v_TIMESTAMP)] [])) t → Steps p.tables e below (s₁.setTop (entryFrame m #[(.int p0)] 6)) t := by
    intro t kt
    refine S117 _ ?_
    by_cases hc30_118 : (1114 : Int32) = p0
    case pos =>
      rw [(if_pos hc30_118 : (if (1114 : Int32) = p0 then ((.ref v_TIMESTAMP) : Value) else m13) = (.ref v_TIMESTAMP))] at kt
      show Steps p.tables e below (T116.setTop (mkF m 30 #[.val (.int p0), .val m13, .val (.ref bb_33), .val (.int (15 : Int32)), .val (.int (13 : Int32)), .val (.ref v_TIMESTAMP)] [(.int p0), (.int (1114 : Int32))])) _
      refine XS.icmpNo X116.here hx rfl (hb hby d2_30) rfl (XT.ii_ne_f hc30_118) ?_
      show Steps p.tables e below (T116.setTop (mkF m 33 #[.val (.int p0), .val m13, .val (.ref bb_33), .val (.int (15 : Int32)), .val (.int (13 : Int32)), .val (.ref v_TIMESTAMP)] [])) _
      refine XS.aload X116.here hx rfl (hb hby d2_33) rfl rfl ?_
      show Steps p.tables e below (T116.setTop (mkF m 35 #[.val (.int p0), .val m13, .val (.ref bb_33), .val (.int (15 : Int32)), .val (.int (13 : Int32)), .val (.ref v_TIMESTAMP)] [(.ref v_TIMESTAMP)])) _
      refine XS.astoreN X116.here hx rfl (hb hby d2_35) rfl rfl (l' := #[.val (.int p0), .val (.ref v_TIMESTAMP), .val (.ref bb_33), .val (.int (15 : Int32)), .val (.int (13 : Int32)), .val (.ref v_TIMESTAMP)]) (XS.store1 rfl (Or.inr ⟨_, rfl, (XT.cat1 rf_m13)⟩) rfl) ?_
      exact kt
    case neg =>
      rw [(if_neg hc30_118 : (if (1114 : Int32) = p0 then ((.ref v_TIMESTAMP) : Value) else m13) = m13)] at kt
      show Steps p.tables e below (T116.setTop (mkF m 30 #[.val (.int p0), .val m13, .val (.ref bb_33), .val (.int (15 : Int32)), .val (.int (13 : Int32)), .val (.ref v_TIMESTAMP)] [(.int p0), (.int (1114 : Int32))])) _
      refine XS.icmpYes X116.here hx rfl (pc0 := 30) (pc' := 36) rfl (hb hby d2_30) rfl (XT.ii_ne_t hc30_118) (by decide) (by decide) ?_
      exact kt
  obtain ⟨m14, hd_m14⟩ : ∃ z, z = (if (1114 : Int32) = p0 then ((.ref v_TIMESTAMP) : Value) else m13) := ⟨_, rfl⟩
  rw [← hd_m14] at S119
  have rf_m14 : m14.isRef = true := by rw [hd_m14]; exact (own_ite_ref rfl rf_m13)
  obtain ⟨cl120, Ar120, q120, S_120, N_120, H120, G120⟩ := id f33_1
  have hin120 : ¬ ((14 : Int32) < 0 ∨ cl120.slots.size ≤ ((14 : Int32)).toNatClampNeg) := inb_of S_120 ⟨by decide, by decide⟩
  have hat120 : cl120.slots[((14 : Int32)).toNatClampNeg]? = some (.ref v_TIMESTAMPTZ) := Has.at H120 hin120 (by rfl)
  have c121 : Fld Z T33.heap v_TIMESTAMPTZ "com/example/gatedb/gatedb/pgwire/PgType" "oid" "I" (.int (1184 : Int32)) := (Fv_TIMESTAMPTZ_oid.keep Kq33 List.not_mem_nil)
  obtain ⟨T122, X122, e122, st122⟩ := getF X116 hx hZ hown (host := "") (Or.inl (hw _ (List.mem_of_getElem? (i := 39) rfl))) Via.refl e116 c121 (g := (mkF m 26 #[.val (.int p0), .val m14, .val (.ref bb_33), .val (.int (15 : Int32)), .val (.int (14 : Int32)), .val (.ref v_TIMESTAMPTZ)] [(.ref v_TIMESTAMPTZ)])) rfl rfl (hb hby d2_26)
  have S123 : ∀ t, Steps p.tables e below (T122.setTop (mkF m 30 #[.val (.int p0), .val m14, .val (.ref bb_33), .val (.int (15 : Int32)), .val (.int (14 : Int32)), .val (.ref v_TIMESTAMPTZ)] [(.int p0), (.int (1184 : Int32))])) t → Steps p.tables e below (s₁.setTop (entryFrame m #[(.int p0)] 6)) t := by
    intro t kt
    refine S119 _ ?_
    show Steps p.tables e below (T116.setTop (mkF m 36 #[.val (.int p0), .val m14, .val (.ref bb_33), .val (.int (15 : Int32)), .val (.int (13 : Int32)), .val (.ref v_TIMESTAMP)] [])) _
    refine XS.iinc X116.here hx rfl (hb hby d2_36) rfl (l' := #[.val (.int p0), .val m14, .val (.ref bb_33), .val (.int (15 : Int32)), .val (.int (14 : Int32)), .val (.ref v_TIMESTAMP)]) rfl ?_
    show Steps p.tables e below (T116.setTop (mkF m 39 #[.val (.int p0), .val m14, .val (.ref bb_33), .val (.int (15 : Int32)), .val (.int (14 : Int32)), .val (.ref v_TIMESTAMP)] [])) _
    refine XS.goto X116.here hx rfl (pc0 := 39) (pc' := 12) rfl (hb hby d2_39) (by decide) (by decide) ?_
    show Steps p.tables e below (T116.setTop (mkF m 12 #[.val (.int p0), .val m14, .val (.ref bb_33), .val (.int (15 : Int32)), .val (.int (14 : Int32)), .val (.ref v_TIMESTAMP)] [])) _
    refine XS.iload X116.here hx rfl (hb hby d2_12) rfl ?_
    show Steps p.tables e below (T116.setTop (mkF m 14 #[.val (.int p0), .val m14, .val (.ref bb_33), .val (.int (15 : Int32)), .val (.int (14 : Int32)), .val (.ref v_TIMESTAMP)] [(.int (14 : Int32))])) _
    refine XS.iloadN X116.here hx rfl (hb hby d2_14) rfl ?_
    show Steps p.tables e below (T116.setTop (mkF m 15 #[.val (.int p0), .val m14, .val (.ref bb_33), .val (.int (15 : Int32)), .val (.int (14 : Int32)), .val (.ref v_TIMESTAMP)] [(.int (15 : Int32)), (.int (14 : Int32))])) _
    refine XS.icmpNo X116.here hx rfl (hb hby d2_15) rfl (XT.ii_ge_f (by decide)) ?_
    show Steps p.tables e below (T116.setTop (mkF m 18 #[.val (.int p0), .val m14, .val (.ref bb_33), .val (.int (15 : Int32)), .val (.int (14 : Int32)), .val (.ref v_TIMESTAMP)] [])) _
    refine XS.aloadN X116.here hx rfl (hb hby d2_18) rfl rfl ?_
    show Steps p.tables e below (T116.setTop (mkF m 19 #[.val (.int p0), .val m14, .val (.ref bb_33), .val (.int (15 : Int32)), .val (.int (14 : Int32)), .val (.ref v_TIMESTAMP)] [(.ref bb_33)])) _
    refine XS.iload X116.here hx rfl (hb hby d2_19) rfl ?_
    show Steps p.tables e below (T116.setTop (mkF m 21 #[.val (.int p0), .val m14, .val (.ref bb_33), .val (.int (15 : Int32)), .val (.int (14 : Int32)), .val (.ref v_TIMESTAMP)] [(.int (14 : Int32)), (.ref bb_33)])) _
    refine X116.aaload hx (j := (14 : Int32)) (v := (.ref v_TIMESTAMPTZ)) (by rw [e116]; exact Ar120.1) (State.isArrayOf_alike hZ.alike Ar120.2.1) rfl Ar120.2.2 hin120 hat120 (g := (mkF m 21 #[.val (.int p0), .val m14, .val (.ref bb_33), .val (.int (15 : Int32)), .val (.int (14 : Int32)), .val (.ref v_TIMESTAMP)] [(.int (14 : Int32)), (.ref bb_33)])) rfl rfl (hb hby d2_21) _ ?_
    show Steps p.tables e below (T116.setTop (mkF m 22 #[.val (.int p0), .val m14, .val (.ref bb_33), .val (.int (15 : Int32)), .val (.int (14 : Int32)), .val (.ref v_TIMESTAMP)] [(.ref v_TIMESTAMPTZ)])) _
    refine XS.astore X116.here hx rfl (hb hby d2_22) rfl rfl (l' := #[.val (.int p0), .val m14, .val (.ref bb_33), .val (.int (15 : Int32)), .val (.int (14 : Int32)), .val (.ref v_TIMESTAMPTZ)]) rfl ?_
    show Steps p.tables e below (T116.setTop (mkF m 24 #[.val (.int p0), .val m14, .val (.ref bb_33), .val (.int (15 : Int32)), .val (.int (14 : Int32)), .val (.ref v_TIMESTAMPTZ)] [])) _
    refine XS.aload X116.here hx rfl (hb hby d2_24) rfl rfl ?_
    show Steps p.tables e below (T116.setTop (mkF m 26 #[.val (.int p0), .val m14, .val (.ref bb_33), .val (.int (15 : Int32)), .val (.int (14 : Int32)), .val (.ref v_TIMESTAMPTZ)] [(.ref v_TIMESTAMPTZ)])) _
    refine st122 _ ?_
    show Steps p.tables e below (T122.setTop (mkF m 29 #[.val (.int p0), .val m14, .val (.ref bb_33), .val (.int (15 : Int32)), .val (.int (14 : Int32)), .val (.ref v_TIMESTAMPTZ)] [(.int (1184 : Int32))])) _
    refine XS.iloadN X122.here hx rfl (hb hby d2_29) rfl ?_
    exact kt
  have S125 : ∀ t, Steps p.tables e below (T122.setTop (mkF m 36 #[.val (.int p0), .val (if (1184 : Int32) = p0 then ((.ref v_TIMESTAMPTZ) : Value) else m14), .val (.ref bb_33), .val (.int (15 : Int32)), .val (.int (14 : Int32)), .val (.ref v_TIMESTAMPTZ)] [])) t → Steps p.tables e below (s₁.setTop (entryFrame m #[(.int p0)] 6)) t := by
    intro t kt
    refine S123 _ ?_
    by_cases hc30_124 : (1184 : Int32) = p0
    case pos =>
      rw [(if_pos hc30_124 : (if (1184 : Int32) = p0 then ((.ref v_TIMESTAMPTZ) : Value) else m14) = (.ref v_TIMESTAMPTZ))] at kt
      show Steps p.tables e below (T122.setTop (mkF m 30 #[.val (.int p0), .val m14, .val (.ref bb_33), .val (.int (15 : Int32)), .val (.int (14 : Int32)), .val (.ref v_TIMESTAMPTZ)] [(.int p0), (.int (1184 : Int32))])) _
      refine XS.icmpNo X122.here hx rfl (hb hby d2_30) rfl (XT.ii_ne_f hc30_124) ?_
      show Steps p.tables e below (T122.setTop (mkF m 33 #[.val (.int p0), .val m14, .val (.ref bb_33), .val (.int (15 : Int32)), .val (.int (14 : Int32)), .val (.ref v_TIMESTAMPTZ)] [])) _
      refine XS.aload X122.here hx rfl (hb hby d2_33) rfl rfl ?_
      show Steps p.tables e below (T122.setTop (mkF m 35 #[.val (.int p0), .val m14, .val (.ref bb_33), .val (.int (15 : Int32)), .val (.int (14 : Int32)), .val (.ref v_TIMESTAMPTZ)] [(.ref v_TIMESTAMPTZ)])) _
      refine XS.astoreN X122.here hx rfl (hb hby d2_35) rfl rfl (l' := #[.val (.int p0), .val (.ref v_TIMESTAMPTZ), .val (.ref bb_33), .val (.int (15 : Int32)), .val (.int (14 : Int32)), .val (.ref v_TIMESTAMPTZ)]) (XS.store1 rfl (Or.inr ⟨_, rfl, (XT.cat1 rf_m14)⟩) rfl) ?_
      exact kt
    case neg =>
      rw [(if_neg hc30_124 : (if (1184 : Int32) = p0 then ((.ref v_TIMESTAMPTZ) : Value) else m14) = m14)] at kt
      show Steps p.tables e below (T122.setTop (mkF m 30 #[.val (.int p0), .val m14, .val (.ref bb_33), .val (.int (15 : Int32)), .val (.int (14 : Int32)), .val (.ref v_TIMESTAMPTZ)] [(.int p0), (.int (1184 : Int32))])) _
      refine XS.icmpYes X122.here hx rfl (pc0 := 30) (pc' := 36) rfl (hb hby d2_30) rfl (XT.ii_ne_t hc30_124) (by decide) (by decide) ?_
      exact kt
  obtain ⟨m15, hd_m15⟩ : ∃ z, z = (if (1184 : Int32) = p0 then ((.ref v_TIMESTAMPTZ) : Value) else m14) := ⟨_, rfl⟩
  rw [← hd_m15] at S125
  have rf_m15 : m15.isRef = true := by rw [hd_m15]; exact (own_ite_ref rfl rf_m14)
  obtain ⟨fs, hrT, hrunT, hendT, hWT, hsameT⟩ := X122.leave (hlocks := BodyLoose.notSynchronized Bd) (v := some m15) (fun h => by rw [Bd.returns] at h; cases h)
  refine ⟨_, _, S125 _ ?_, hrunT, hendT, _, _, rfl, ?_, ⟨_, rfl⟩, hWT, hsameT.mono (by decide) (by decide)⟩
  · show Steps p.tables e below (T122.setTop (mkF m 36 #[.val (.int p0), .val m15, .val (.ref bb_33), .val (.int (15 : Int32)), .val (.int (14 : Int32)), .val (.ref v_TIMESTAMPTZ)] [])) _
    refine XS.iinc X122.here hx rfl (hb hby d2_36) rfl (l' := #[.val (.int p0), .val m15, .val (.ref bb_33), .val (.int (15 : Int32)), .val (.int (15 : Int32)), .val (.ref v_TIMESTAMPTZ)]) rfl ?_
    show Steps p.tables e below (T122.setTop (mkF m 39 #[.val (.int p0), .val m15, .val (.ref bb_33), .val (.int (15 : Int32)), .val (.int (15 : Int32)), .val (.ref v_TIMESTAMPTZ)] [])) _
    refine XS.goto X122.here hx rfl (pc0 := 39) (pc' := 12) rfl (hb hby d2_39) (by decide) (by decide) ?_
    show Steps p.tables e below (T122.setTop (mkF m 12 #[.val (.int p0), .val m15, .val (.ref bb_33), .val (.int (15 : Int32)), .val (.int (15 : Int32)), .val (.ref v_TIMESTAMPTZ)] [])) _
    refine XS.iload X122.here hx rfl (hb hby d2_12) rfl ?_
    show Steps p.tables e below (T122.setTop (mkF m 14 #[.val (.int p0), .val m15, .val (.ref bb_33), .val (.int (15 : Int32)), .val (.int (15 : Int32)), .val (.ref v_TIMESTAMPTZ)] [(.int (15 : Int32))])) _
    refine XS.iloadN X122.here hx rfl (hb hby d2_14) rfl ?_
    show Steps p.tables e below (T122.setTop (mkF m 15 #[.val (.int p0), .val m15, .val (.ref bb_33), .val (.int (15 : Int32)), .val (.int (15 : Int32)), .val (.ref v_TIMESTAMPTZ)] [(.int (15 : Int32)), (.int (15 : Int32))])) _
    refine XS.icmpYes X122.here hx rfl (pc0 := 15) (pc' := 42) rfl (hb hby d2_15) rfl (XT.ii_ge_t (by decide)) (by decide) (by decide) ?_
    show Steps p.tables e below (T122.setTop (mkF m 42 #[.val (.int p0), .val m15, .val (.ref bb_33), .val (.int (15 : Int32)), .val (.int (15 : Int32)), .val (.ref v_TIMESTAMPTZ)] [])) _
    refine XS.aloadN X122.here hx rfl (hb hby d2_42) rfl rf_m15 ?_
    show Steps p.tables e below (T122.setTop (mkF m 43 #[.val (.int p0), .val m15, .val (.ref bb_33), .val (.int (15 : Int32)), .val (.int (15 : Int32)), .val (.ref v_TIMESTAMPTZ)] [m15])) _
    exact retOut X122 hx Bd.returns rfl (by right; right; right; right; exact ⟨rfl, rfl, rf_m15⟩) (hb hby d2_43) hrT
  · show Q2 Z p0 kV v__VALUES v_BOOL v_INT2 v_INT4 v_INT8 v_TEXT v_VARCHAR v_BPCHAR v_NAME v_FLOAT4 v_FLOAT8 v_NUMERIC v_DATE v_TIME v_TIMESTAMP v_TIMESTAMPTZ h0 n0 _ T122.heap _
    rw [e122]
    exact ⟨(by show some m15 = some (f_of p0 v_BOOL v_INT2 v_INT4 v_INT8 v_TEXT v_VARCHAR v_BPCHAR v_NAME v_FLOAT4 v_FLOAT8 v_NUMERIC v_DATE v_TIME v_TIMESTAMP v_TIMESTAMPTZ); rw [hd_m15, hd_m14, hd_m13, hd_m12, hd_m11, hd_m10, hd_m9, hd_m8, hd_m7, hd_m6, hd_m5, hd_m4, hd_m3, hd_m2, hd_m1]; rfl), N33, K34⟩
theorem d4_0 : decode method_4_code 0 = .ok (.iload_n 0, 1) := by decide +kernel
theorem d4_1 : decode method_4_code 1 = .ok (.bipush 16, 2) := by decide +kernel
theorem d4_3 : decode method_4_code 3 = .ok (.if_icmp .ne 7, 3) := by decide +kernel
theorem d4_6 : decode method_4_code 6 = .ok (.getstatic 27, 3) := by decide +kernel
theorem d4_9 : decode method_4_code 9 = .ok (.areturn, 1) := by decide +kernel
theorem d4_10 : decode method_4_code 10 = .ok (.iload_n 0, 1) := by decide +kernel
theorem d4_11 : decode method_4_code 11 = .ok (.bipush 21, 2) := by decide +kernel
theorem d4_13 : decode method_4_code 13 = .ok (.if_icmp .ne 7, 3) := by decide +kernel
theorem d4_16 : decode method_4_code 16 = .ok (.getstatic 31, 3) := by decide +kernel
theorem d4_19 : decode method_4_code 19 = .ok (.areturn, 1) := by decide +kernel
theorem d4_20 : decode method_4_code 20 = .ok (.iload_n 0, 1) := by decide +kernel
theorem d4_21 : decode method_4_code 21 = .ok (.bipush 23, 2) := by decide +kernel
theorem d4_23 : decode method_4_code 23 = .ok (.if_icmp .ne 7, 3) := by decide +kernel
theorem d4_26 : decode method_4_code 26 = .ok (.getstatic 34, 3) := by decide +kernel
theorem d4_29 : decode method_4_code 29 = .ok (.areturn, 1) := by decide +kernel
theorem d4_30 : decode method_4_code 30 = .ok (.iload_n 0, 1) := by decide +kernel
theorem d4_31 : decode method_4_code 31 = .ok (.bipush 20, 2) := by decide +kernel
theorem d4_33 : decode method_4_code 33 = .ok (.if_icmp .ne 7, 3) := by decide +kernel
theorem d4_36 : decode method_4_code 36 = .ok (.getstatic 37, 3) := by decide +kernel
theorem d4_39 : decode method_4_code 39 = .ok (.areturn, 1) := by decide +kernel
theorem d4_40 : decode method_4_code 40 = .ok (.iload_n 0, 1) := by decide +kernel
theorem d4_41 : decode method_4_code 41 = .ok (.bipush 25, 2) := by decide +kernel
theorem d4_43 : decode method_4_code 43 = .ok (.if_icmp .ne 7, 3) := by decide +kernel
theorem d4_46 : decode method_4_code 46 = .ok (.getstatic 40, 3) := by decide +kernel
theorem d4_49 : decode method_4_code 49 = .ok (.areturn, 1) := by decide +kernel
theorem d4_50 : decode method_4_code 50 = .ok (.iload_n 0, 1) := by decide +kernel
theorem d4_51 : decode method_4_code 51 = .ok (.sipush 1043, 3) := by decide +kernel
theorem d4_54 : decode method_4_code 54 = .ok (.if_icmp .ne 7, 3) := by decide +kernel
theorem d4_57 : decode method_4_code 57 = .ok (.getstatic 43, 3) := by decide +kernel
theorem d4_60 : decode method_4_code 60 = .ok (.areturn, 1) := by decide +kernel
theorem d4_61 : decode method_4_code 61 = .ok (.iload_n 0, 1) := by decide +kernel
theorem d4_62 : decode method_4_code 62 = .ok (.sipush 1042, 3) := by decide +kernel
theorem d4_65 : decode method_4_code 65 = .ok (.if_icmp .ne 7, 3) := by decide +kernel
theorem d4_68 : decode method_4_code 68 = .ok (.getstatic 46, 3) := by decide +kernel
theorem d4_71 : decode method_4_code 71 = .ok (.areturn, 1) := by decide +kernel
theorem d4_72 : decode method_4_code 72 = .ok (.iload_n 0, 1) := by decide +kernel
theorem d4_73 : decode method_4_code 73 = .ok (.bipush 19, 2) := by decide +kernel
theorem d4_75 : decode method_4_code 75 = .ok (.if_icmp .ne 7, 3) := by decide +kernel
theorem d4_78 : decode method_4_code 78 = .ok (.getstatic 49, 3) := by decide +kernel
theorem d4_81 : decode method_4_code 81 = .ok (.areturn, 1) := by decide +kernel
theorem d4_82 : decode method_4_code 82 = .ok (.iload_n 0, 1) := by decide +kernel
theorem d4_83 : decode method_4_code 83 = .ok (.sipush 700, 3) := by decide +kernel
theorem d4_86 : decode method_4_code 86 = .ok (.if_icmp .ne 7, 3) := by decide +kernel
theorem d4_89 : decode method_4_code 89 = .ok (.getstatic 52, 3) := by decide +kernel
theorem d4_92 : decode method_4_code 92 = .ok (.areturn, 1) := by decide +kernel
theorem d4_93 : decode method_4_code 93 = .ok (.iload_n 0, 1) := by decide +kernel
theorem d4_94 : decode method_4_code 94 = .ok (.sipush 701, 3) := by decide +kernel
theorem d4_97 : decode method_4_code 97 = .ok (.if_icmp .ne 7, 3) := by decide +kernel
theorem d4_100 : decode method_4_code 100 = .ok (.getstatic 55, 3) := by decide +kernel
theorem d4_103 : decode method_4_code 103 = .ok (.areturn, 1) := by decide +kernel
theorem d4_104 : decode method_4_code 104 = .ok (.iload_n 0, 1) := by decide +kernel
theorem d4_105 : decode method_4_code 105 = .ok (.sipush 1700, 3) := by decide +kernel
theorem d4_108 : decode method_4_code 108 = .ok (.if_icmp .ne 7, 3) := by decide +kernel
theorem d4_111 : decode method_4_code 111 = .ok (.getstatic 58, 3) := by decide +kernel
theorem d4_114 : decode method_4_code 114 = .ok (.areturn, 1) := by decide +kernel
theorem d4_115 : decode method_4_code 115 = .ok (.iload_n 0, 1) := by decide +kernel
theorem d4_116 : decode method_4_code 116 = .ok (.sipush 1082, 3) := by decide +kernel
theorem d4_119 : decode method_4_code 119 = .ok (.if_icmp .ne 7, 3) := by decide +kernel
theorem d4_122 : decode method_4_code 122 = .ok (.getstatic 61, 3) := by decide +kernel
theorem d4_125 : decode method_4_code 125 = .ok (.areturn, 1) := by decide +kernel
theorem d4_126 : decode method_4_code 126 = .ok (.iload_n 0, 1) := by decide +kernel
theorem d4_127 : decode method_4_code 127 = .ok (.sipush 1083, 3) := by decide +kernel
theorem d4_130 : decode method_4_code 130 = .ok (.if_icmp .ne 7, 3) := by decide +kernel
theorem d4_133 : decode method_4_code 133 = .ok (.getstatic 64, 3) := by decide +kernel
theorem d4_136 : decode method_4_code 136 = .ok (.areturn, 1) := by decide +kernel
theorem d4_137 : decode method_4_code 137 = .ok (.iload_n 0, 1) := by decide +kernel
theorem d4_138 : decode method_4_code 138 = .ok (.sipush 1114, 3) := by decide +kernel
theorem d4_141 : decode method_4_code 141 = .ok (.if_icmp .ne 7, 3) := by decide +kernel
theorem d4_144 : decode method_4_code 144 = .ok (.getstatic 67, 3) := by decide +kernel
theorem d4_147 : decode method_4_code 147 = .ok (.areturn, 1) := by decide +kernel
theorem d4_148 : decode method_4_code 148 = .ok (.iload_n 0, 1) := by decide +kernel
theorem d4_149 : decode method_4_code 149 = .ok (.sipush 1184, 3) := by decide +kernel
theorem d4_152 : decode method_4_code 152 = .ok (.if_icmp .ne 7, 3) := by decide +kernel
theorem d4_155 : decode method_4_code 155 = .ok (.getstatic 70, 3) := by decide +kernel
theorem d4_158 : decode method_4_code 158 = .ok (.areturn, 1) := by decide +kernel
theorem d4_159 : decode method_4_code 159 = .ok (.aconst_null, 1) := by decide +kernel
theorem d4_160 : decode method_4_code 160 = .ok (.areturn, 1) := by decide +kernel
def f_ref (p0 : Int32) (v_BOOL : Addr) (v_INT2 : Addr) (v_INT4 : Addr) (v_INT8 : Addr) (v_TEXT : Addr) (v_VARCHAR : Addr) (v_BPCHAR : Addr) (v_NAME : Addr) (v_FLOAT4 : Addr) (v_FLOAT8 : Addr) (v_NUMERIC : Addr) (v_DATE : Addr) (v_TIME : Addr) (v_TIMESTAMP : Addr) (v_TIMESTAMPTZ : Addr) : Value := (if p0 = (16 : Int32) then (.ref v_BOOL) else (if p0 = (21 : Int32) then (.ref v_INT2) else (if p0 = (23 : Int32) then (.ref v_INT4) else (if p0 = (20 : Int32) then (.ref v_INT8) else (if p0 = (25 : Int32) then (.ref v_TEXT) else (if p0 = (1043 : Int32) then (.ref v_VARCHAR) else (if p0 = (1042 : Int32) then (.ref v_BPCHAR) else (if p0 = (19 : Int32) then (.ref v_NAME) else (if p0 = (700 : Int32) then (.ref v_FLOAT4) else (if p0 = (701 : Int32) then (.ref v_FLOAT8) else (if p0 = (1700 : Int32) then (.ref v_NUMERIC) else (if p0 = (1082 : Int32) then (.ref v_DATE) else (if p0 = (1083 : Int32) then (.ref v_TIME) else (if p0 = (1114 : Int32) then (.ref v_TIMESTAMP) else (if p0 = (1184 : Int32) then (.ref v_TIMESTAMPTZ) else .null)))))))))))))))
theorem own_rf_f_ref (p0 : Int32) (v_BOOL : Addr) (v_INT2 : Addr) (v_INT4 : Addr) (v_INT8 : Addr) (v_TEXT : Addr) (v_VARCHAR : Addr) (v_BPCHAR : Addr) (v_NAME : Addr) (v_FLOAT4 : Addr) (v_FLOAT8 : Addr) (v_NUMERIC : Addr) (v_DATE : Addr) (v_TIME : Addr) (v_TIMESTAMP : Addr) (v_TIMESTAMPTZ : Addr) : (f_ref p0 v_BOOL v_INT2 v_INT4 v_INT8 v_TEXT v_VARCHAR v_BPCHAR v_NAME v_FLOAT4 v_FLOAT8 v_NUMERIC v_DATE v_TIME v_TIMESTAMP v_TIMESTAMPTZ).isRef = true := (own_ite_ref rfl (own_ite_ref rfl (own_ite_ref rfl (own_ite_ref rfl (own_ite_ref rfl (own_ite_ref rfl (own_ite_ref rfl (own_ite_ref rfl (own_ite_ref rfl (own_ite_ref rfl (own_ite_ref rfl (own_ite_ref rfl (own_ite_ref rfl (own_ite_ref rfl (own_ite_ref rfl rfl)))))))))))))))
theorem ef4 (m : MethodId) (x0 : Int32) : entryFrame m #[(.int x0)] 1 = mkF m 0 #[.val (.int x0)] [] := by first | (simp [entryFrame, mkF, argsToLocals, Value.category]; done) | rfl
def Q4 (Z : State) (p0 : Int32) (v_BOOL : Addr) (v_INT2 : Addr) (v_INT4 : Addr) (v_INT8 : Addr) (v_TEXT : Addr) (v_VARCHAR : Addr) (v_BPCHAR : Addr) (v_NAME : Addr) (v_FLOAT4 : Addr) (v_FLOAT8 : Addr) (v_NUMERIC : Addr) (v_DATE : Addr) (v_TIME : Addr) (v_TIMESTAMP : Addr) (v_TIMESTAMPTZ : Addr) (h0 : Heap) (n0 : Nat) (v : Option Value) (h : Heap) (L : List Loc) : Prop := v = some (f_ref p0 v_BOOL v_INT2 v_INT4 v_INT8 v_TEXT v_VARCHAR v_BPCHAR v_NAME v_FLOAT4 v_FLOAT8 v_NUMERIC v_DATE v_TIME v_TIMESTAMP v_TIMESTAMPTZ) ∧ Fr n0 L ∧ h = h0
set_option maxRecDepth 65536 in
set_option maxHeartbeats 40000000 in
theorem rm4 (l : Launch) (Z : State) (a0 : Array Value) (hw : ∀ d ∈ tables_1, d.before a0 Z = true) (ws : List Jvm.Cond) (p0 : Int32) (v_BOOL : Addr) (v_INT2 : Addr) (v_INT4 : Addr) (v_INT8 : Addr) (v_TEXT : Addr) (v_VARCHAR : Addr) (v_BPCHAR : Addr) (v_NAME : Addr) (v_FLOAT4 : Addr) (v_FLOAT8 : Addr) (v_NUMERIC : Addr) (v_DATE : Addr) (v_TIME : Addr) (v_TIMESTAMP : Addr) (v_TIMESTAMPTZ : Addr) (h0 : Heap) (n0 : Nat) (Z0 : n0 ≤ h0.size) (Sv_BOOL : Sta Z h0 "com/example/gatedb/gatedb/pgwire/PgType" "BOOL" "Lcom/example/gatedb/gatedb/pgwire/PgType;" (.ref v_BOOL)) (Sv_INT2 : Sta Z h0 "com/example/gatedb/gatedb/pgwire/PgType" "INT2" "Lcom/example/gatedb/gatedb/pgwire/PgType;" (.ref v_INT2)) (Sv_INT4 : Sta Z h0 "com/example/gatedb/gatedb/pgwire/PgType" "INT4" "Lcom/example/gatedb/gatedb/pgwire/PgType;" (.ref v_INT4)) (Sv_INT8 : Sta Z h0 "com/example/gatedb/gatedb/pgwire/PgType" "INT8" "Lcom/example/gatedb/gatedb/pgwire/PgType;" (.ref v_INT8)) (Sv_TEXT : Sta Z h0 "com/example/gatedb/gatedb/pgwire/PgType" "TEXT" "Lcom/example/gatedb/gatedb/pgwire/PgType;" (.ref v_TEXT)) (Sv_VARCHAR : Sta Z h0 "com/example/gatedb/gatedb/pgwire/PgType" "VARCHAR" "Lcom/example/gatedb/gatedb/pgwire/PgType;" (.ref v_VARCHAR)) (Sv_BPCHAR : Sta Z h0 "com/example/gatedb/gatedb/pgwire/PgType" "BPCHAR" "Lcom/example/gatedb/gatedb/pgwire/PgType;" (.ref v_BPCHAR)) (Sv_NAME : Sta Z h0 "com/example/gatedb/gatedb/pgwire/PgType" "NAME" "Lcom/example/gatedb/gatedb/pgwire/PgType;" (.ref v_NAME)) (Sv_FLOAT4 : Sta Z h0 "com/example/gatedb/gatedb/pgwire/PgType" "FLOAT4" "Lcom/example/gatedb/gatedb/pgwire/PgType;" (.ref v_FLOAT4)) (Sv_FLOAT8 : Sta Z h0 "com/example/gatedb/gatedb/pgwire/PgType" "FLOAT8" "Lcom/example/gatedb/gatedb/pgwire/PgType;" (.ref v_FLOAT8)) (Sv_NUMERIC : Sta Z h0 "com/example/gatedb/gatedb/pgwire/PgType" "NUMERIC" "Lcom/example/gatedb/gatedb/pgwire/PgType;" (.ref v_NUMERIC)) (Sv_DATE : Sta Z h0 "com/example/gatedb/gatedb/pgwire/PgType" "DATE" "Lcom/example/gatedb/gatedb/pgwire/PgType;" (.ref v_DATE)) (Sv_TIME : Sta Z h0 "com/example/gatedb/gatedb/pgwire/PgType" "TIME" "Lcom/example/gatedb/gatedb/pgwire/PgType;" (.ref v_TIME)) (Sv_TIMESTAMP : Sta Z h0 "com/example/gatedb/gatedb/pgwire/PgType" "TIMESTAMP" "Lcom/example/gatedb/gatedb/pgwire/PgType;" (.ref v_TIMESTAMP)) (Sv_TIMESTAMPTZ : Sta Z h0 "com/example/gatedb/gatedb/pgwire/PgType" "TIMESTAMPTZ" "Lcom/example/gatedb/gatedb/pgwire/PgType;" (.ref v_TIMESTAMPTZ)) :
    MetFree l (⟨"com/example/gatedb/gatedb/pgwire/PgTypeOfOidPinLaw", "ref", "(I)Lcom/example/gatedb/gatedb/pgwire/PgType;"⟩ : MethodName) (head1 (Jvm.Cond.code (⟨"com/example/gatedb/gatedb/pgwire/PgTypeOfOidPinLaw", "ref", "(I)Lcom/example/gatedb/gatedb/pgwire/PgType;"⟩ : MethodName) method_4_code 1 (some (.object "com/example/gatedb/gatedb/pgwire/PgType")) :: ws) ({ frames := 0, cells := 0, slots := 0, locals := 0 } : Room)) (fun a U => a = #[(.int p0)] ∧ Z.Warmed39 U.vm ∧ U.heap = h0) (fun _ _ _ _ _ => True) (fun _ U o U' => ∃ v L, o = .returned v ∧ Q4 Z p0 v_BOOL v_INT2 v_INT4 v_INT8 v_TEXT v_VARCHAR v_BPCHAR v_NAME v_FLOAT4 v_FLOAT8 v_NUMERIC v_DATE v_TIME v_TIMESTAMP v_TIMESTAMPTZ h0 n0 v U'.heap L ∧ FrameEnd U o U' L ({ frames := 0, cells := 0, slots := 0, locals := 0 } : Room).cells ({ frames := 0, cells := 0, slots := 0, locals := 0 } : Room).slots) := by
  refine MetFree.of_bodySF (plainFor_of_name pn_PgTypeOfOidPinLaw) hisR ?_
  intro p e s m args below meth c s₁ Bd hml0 hP hK
  obtain ⟨rfl, hZ, hh⟩ := hP
  have hx := Bd.exec
  have hby := Bd.bytes
  have hml : c.maxLocals = 1 := hml0
  have hown : s.vm.findClass "com/example/gatedb/gatedb/pgwire/PgTypeOfOidPinLaw" = some m.cls := findClass_of_methodNamed Bd.named
  have hnm := (name_of_methodNamed Bd.named Bd.method).1
  have X0 : Stand p l e ({ frames := 0, cells := 0, slots := 0, locals := 0 } : Room) s m #[(.int p0)] below meth c s₁ [] 0 0 := Stand.of_body Bd
  have e0 : s₁.heap = h0 := by rw [← hh, Bd.state]; rfl
  have N0 := Fr.nil n0
  have pre0 : ∀ t, Steps p.tables e below (s₁.setTop (mkF m 0 #[.val (.int p0)] [])) t → Steps p.tables e below (s₁.setTop (entryFrame m #[(.int p0)] 1)) t := fun t k => castTop (ef4 m p0) k
  have S126 : ∀ t, Steps p.tables e below (s₁.setTop (mkF m 3 #[.val (.int p0)] [(.int (16 : Int32)), (.int p0)])) t → Steps p.tables e below (s₁.setTop (entryFrame m #[(.int p0)] 1)) t := by
    intro t kt
    refine pre0 _ ?_
    show Steps p.tables e below (s₁.setTop (mkF m 0 #[.val (.int p0)] [])) _
    refine XS.iloadN X0.here hx rfl (hb hby d4_0) rfl ?_
    show Steps p.tables e below (s₁.setTop (mkF m 1 #[.val (.int p0)] [(.int p0)])) _
    refine XS.bipush X0.here hx rfl (hb hby d4_1) ?_
    exact kt
  by_cases hc3_127 : p0 = (16 : Int32)
  case pos =>
    obtain ⟨T128, X128, e128, st128⟩ := getS2 X0 hx hZ hown (host := "") (Or.inl (hw _ (List.mem_of_getElem? (i := 53) rfl))) Via.refl e0 Sv_BOOL (g := (mkF m 6 #[.val (.int p0)] [])) rfl (hb hby d4_6)
    obtain ⟨fs, hrT, hrunT, hendT, hWT, hsameT⟩ := X128.leave (hlocks := BodyLoose.notSynchronized Bd) (v := some (.ref v_BOOL)) (fun h => by rw [Bd.returns] at h; cases h)
    refine ⟨_, _, S126 _ ?_, hrunT, hendT, _, _, rfl, ?_, ⟨_, rfl⟩, hWT, hsameT.mono (by decide) (by decide)⟩
    · show Steps p.tables e below (s₁.setTop (mkF m 3 #[.val (.int p0)] [(.int (16 : Int32)), (.int p0)])) _
      refine XS.icmpNo X0.here hx rfl (hb hby d4_3) rfl (XT.ii_ne_f hc3_127) ?_
      show Steps p.tables e below (s₁.setTop (mkF m 6 #[.val (.int p0)] [])) _
      refine st128 _ ?_
      show Steps p.tables e below (T128.setTop (mkF m 9 #[.val (.int p0)] [(.ref v_BOOL)])) _
      exact retOut X128 hx Bd.returns rfl (by right; right; right; right; exact ⟨rfl, rfl, rfl⟩) (hb hby d4_9) hrT
    · show Q4 Z p0 v_BOOL v_INT2 v_INT4 v_INT8 v_TEXT v_VARCHAR v_BPCHAR v_NAME v_FLOAT4 v_FLOAT8 v_NUMERIC v_DATE v_TIME v_TIMESTAMP v_TIMESTAMPTZ h0 n0 _ T128.heap _
      rw [e128]
      have hv : f_ref p0 v_BOOL v_INT2 v_INT4 v_INT8 v_TEXT v_VARCHAR v_BPCHAR v_NAME v_FLOAT4 v_FLOAT8 v_NUMERIC v_DATE v_TIME v_TIMESTAMP v_TIMESTAMPTZ = (.ref v_BOOL) := by unfold f_ref; rw [if_pos hc3_127]
      exact ⟨(congrArg some hv.symm), N0, rfl⟩
  case neg =>
    have S129 : ∀ t, Steps p.tables e below (s₁.setTop (mkF m 13 #[.val (.int p0)] [(.int (21 : Int32)), (.int p0)])) t → Steps p.tables e below (s₁.setTop (entryFrame m #[(.int p0)] 1)) t := by
      intro t kt
      refine S126 _ ?_
      show Steps p.tables e below (s₁.setTop (mkF m 3 #[.val (.int p0)] [(.int (16 : Int32)), (.int p0)])) _
      refine XS.icmpYes X0.here hx rfl (pc0 := 3) (pc' := 10) rfl (hb hby d4_3) rfl (XT.ii_ne_t hc3_127) (by decide) (by decide) ?_
      show Steps p.tables e below (s₁.setTop (mkF m 10 #[.val (.int p0)] [])) _
      refine XS.iloadN X0.here hx rfl (hb hby d4_10) rfl ?_
      show Steps p.tables e below (s₁.setTop (mkF m 11 #[.val (.int p0)] [(.int p0)])) _
      refine XS.bipush X0.here hx rfl (hb hby d4_11) ?_
      exact kt
    by_cases hc13_130 : p0 = (21 : Int32)
    case pos =>
      obtain ⟨T131, X131, e131, st131⟩ := getS2 X0 hx hZ hown (host := "") (Or.inl (hw _ (List.mem_of_getElem? (i := 52) rfl))) Via.refl e0 Sv_INT2 (g := (mkF m 16 #[.val (.int p0)] [])) rfl (hb hby d4_16)
      obtain ⟨fs, hrT, hrunT, hendT, hWT, hsameT⟩ := X131.leave (hlocks := BodyLoose.notSynchronized Bd) (v := some (.ref v_INT2)) (fun h => by rw [Bd.returns] at h; cases h)
      refine ⟨_, _, S129 _ ?_, hrunT, hendT, _, _, rfl, ?_, ⟨_, rfl⟩, hWT, hsameT.mono (by decide) (by decide)⟩
      · show Steps p.tables e below (s₁.setTop (mkF m 13 #[.val (.int p0)] [(.int (21 : Int32)), (.int p0)])) _
        refine XS.icmpNo X0.here hx rfl (hb hby d4_13) rfl (XT.ii_ne_f hc13_130) ?_
        show Steps p.tables e below (s₁.setTop (mkF m 16 #[.val (.int p0)] [])) _
        refine st131 _ ?_
        show Steps p.tables e below (T131.setTop (mkF m 19 #[.val (.int p0)] [(.ref v_INT2)])) _
        exact retOut X131 hx Bd.returns rfl (by right; right; right; right; exact ⟨rfl, rfl, rfl⟩) (hb hby d4_19) hrT
      · show Q4 Z p0 v_BOOL v_INT2 v_INT4 v_INT8 v_TEXT v_VARCHAR v_BPCHAR v_NAME v_FLOAT4 v_FLOAT8 v_NUMERIC v_DATE v_TIME v_TIMESTAMP v_TIMESTAMPTZ h0 n0 _ T131.heap _
        rw [e131]
        have hv : f_ref p0 v_BOOL v_INT2 v_INT4 v_INT8 v_TEXT v_VARCHAR v_BPCHAR v_NAME v_FLOAT4 v_FLOAT8 v_NUMERIC v_DATE v_TIME v_TIMESTAMP v_TIMESTAMPTZ = (.ref v_INT2) := by unfold f_ref; rw [if_neg hc3_127]; rw [if_pos hc13_130]
        exact ⟨(congrArg some hv.symm), N0, rfl⟩
    case neg =>
      have S132 : ∀ t, Steps p.tables e below (s₁.setTop (mkF m 23 #[.val (.int p0)] [(.int (23 : Int32)), (.int p0)])) t → Steps p.tables e below (s₁.setTop (entryFrame m #[(.int p0)] 1)) t := by
        intro t kt
        refine S129 _ ?_
        show Steps p.tables e below (s₁.setTop (mkF m 13 #[.val (.int p0)] [(.int (21 : Int32)), (.int p0)])) _
        refine XS.icmpYes X0.here hx rfl (pc0 := 13) (pc' := 20) rfl (hb hby d4_13) rfl (XT.ii_ne_t hc13_130) (by decide) (by decide) ?_
        show Steps p.tables e below (s₁.setTop (mkF m 20 #[.val (.int p0)] [])) _
        refine XS.iloadN X0.here hx rfl (hb hby d4_20) rfl ?_
        show Steps p.tables e below (s₁.setTop (mkF m 21 #[.val (.int p0)] [(.int p0)])) _
        refine XS.bipush X0.here hx rfl (hb hby d4_21) ?_
        exact kt
      by_cases hc23_133 : p0 = (23 : Int32)
      case pos =>
        obtain ⟨T134, X134, e134, st134⟩ := getS2 X0 hx hZ hown (host := "") (Or.inl (hw _ (List.mem_of_getElem? (i := 58) rfl))) Via.refl e0 Sv_INT4 (g := (mkF m 26 #[.val (.int p0)] [])) rfl (hb hby d4_26)
        obtain ⟨fs, hrT, hrunT, hendT, hWT, hsameT⟩ := X134.leave (hlocks := BodyLoose.notSynchronized Bd) (v := some (.ref v_INT4)) (fun h => by rw [Bd.returns] at h; cases h)
        refine ⟨_, _, S132 _ ?_, hrunT, hendT, _, _, rfl, ?_, ⟨_, rfl⟩, hWT, hsameT.mono (by decide) (by decide)⟩
        · show Steps p.tables e below (s₁.setTop (mkF m 23 #[.val (.int p0)] [(.int (23 : Int32)), (.int p0)])) _
          refine XS.icmpNo X0.here hx rfl (hb hby d4_23) rfl (XT.ii_ne_f hc23_133) ?_
          show Steps p.tables e below (s₁.setTop (mkF m 26 #[.val (.int p0)] [])) _
          refine st134 _ ?_
          show Steps p.tables e below (T134.setTop (mkF m 29 #[.val (.int p0)] [(.ref v_INT4)])) _
          exact retOut X134 hx Bd.returns rfl (by right; right; right; right; exact ⟨rfl, rfl, rfl⟩) (hb hby d4_29) hrT
        · show Q4 Z p0 v_BOOL v_INT2 v_INT4 v_INT8 v_TEXT v_VARCHAR v_BPCHAR v_NAME v_FLOAT4 v_FLOAT8 v_NUMERIC v_DATE v_TIME v_TIMESTAMP v_TIMESTAMPTZ h0 n0 _ T134.heap _
          rw [e134]
          have hv : f_ref p0 v_BOOL v_INT2 v_INT4 v_INT8 v_TEXT v_VARCHAR v_BPCHAR v_NAME v_FLOAT4 v_FLOAT8 v_NUMERIC v_DATE v_TIME v_TIMESTAMP v_TIMESTAMPTZ = (.ref v_INT4) := by unfold f_ref; rw [if_neg hc3_127]; rw [if_neg hc13_130]; rw [if_pos hc23_133]
          exact ⟨(congrArg some hv.symm), N0, rfl⟩
      case neg =>
        have S135 : ∀ t, Steps p.tables e below (s₁.setTop (mkF m 33 #[.val (.int p0)] [(.int (20 : Int32)), (.int p0)])) t → Steps p.tables e below (s₁.setTop (entryFrame m #[(.int p0)] 1)) t := by
          intro t kt
          refine S132 _ ?_
          show Steps p.tables e below (s₁.setTop (mkF m 23 #[.val (.int p0)] [(.int (23 : Int32)), (.int p0)])) _
          refine XS.icmpYes X0.here hx rfl (pc0 := 23) (pc' := 30) rfl (hb hby d4_23) rfl (XT.ii_ne_t hc23_133) (by decide) (by decide) ?_
          show Steps p.tables e below (s₁.setTop (mkF m 30 #[.val (.int p0)] [])) _
          refine XS.iloadN X0.here hx rfl (hb hby d4_30) rfl ?_
          show Steps p.tables e below (s₁.setTop (mkF m 31 #[.val (.int p0)] [(.int p0)])) _
          refine XS.bipush X0.here hx rfl (hb hby d4_31) ?_
          exact kt
        by_cases hc33_136 : p0 = (20 : Int32)
        case pos =>
          obtain ⟨T137, X137, e137, st137⟩ := getS2 X0 hx hZ hown (host := "") (Or.inl (hw _ (List.mem_of_getElem? (i := 44) rfl))) Via.refl e0 Sv_INT8 (g := (mkF m 36 #[.val (.int p0)] [])) rfl (hb hby d4_36)
          obtain ⟨fs, hrT, hrunT, hendT, hWT, hsameT⟩ := X137.leave (hlocks := BodyLoose.notSynchronized Bd) (v := some (.ref v_INT8)) (fun h => by rw [Bd.returns] at h; cases h)
          refine ⟨_, _, S135 _ ?_, hrunT, hendT, _, _, rfl, ?_, ⟨_, rfl⟩, hWT, hsameT.mono (by decide) (by decide)⟩
          · show Steps p.tables e below (s₁.setTop (mkF m 33 #[.val (.int p0)] [(.int (20 : Int32)), (.int p0)])) _
            refine XS.icmpNo X0.here hx rfl (hb hby d4_33) rfl (XT.ii_ne_f hc33_136) ?_
            show Steps p.tables e below (s₁.setTop (mkF m 36 #[.val (.int p0)] [])) _
            refine st137 _ ?_
            show Steps p.tables e below (T137.setTop (mkF m 39 #[.val (.int p0)] [(.ref v_INT8)])) _
            exact retOut X137 hx Bd.returns rfl (by right; right; right; right; exact ⟨rfl, rfl, rfl⟩) (hb hby d4_39) hrT
          · show Q4 Z p0 v_BOOL v_INT2 v_INT4 v_INT8 v_TEXT v_VARCHAR v_BPCHAR v_NAME v_FLOAT4 v_FLOAT8 v_NUMERIC v_DATE v_TIME v_TIMESTAMP v_TIMESTAMPTZ h0 n0 _ T137.heap _
            rw [e137]
            have hv : f_ref p0 v_BOOL v_INT2 v_INT4 v_INT8 v_TEXT v_VARCHAR v_BPCHAR v_NAME v_FLOAT4 v_FLOAT8 v_NUMERIC v_DATE v_TIME v_TIMESTAMP v_TIMESTAMPTZ = (.ref v_INT8) := by unfold f_ref; rw [if_neg hc3_127]; rw [if_neg hc13_130]; rw [if_neg hc23_133]; rw [if_pos hc33_136]
            exact ⟨(congrArg some hv.symm), N0, rfl⟩
        case neg =>
          have S138 : ∀ t, Steps p.tables e below (s₁.setTop (mkF m 43 #[.val (.int p0)] [(.int (25 : Int32)), (.int p0)])) t → Steps p.tables e below (s₁.setTop (entryFrame m #[(.int p0)] 1)) t := by
            intro t kt
            refine S135 _ ?_
            show Steps p.tables e below (s₁.setTop (mkF m 33 #[.val (.int p0)] [(.int (20 : Int32)), (.int p0)])) _
            refine XS.icmpYes X0.here hx rfl (pc0 := 33) (pc' := 40) rfl (hb hby d4_33) rfl (XT.ii_ne_t hc33_136) (by decide) (by decide) ?_
            show Steps p.tables e below (s₁.setTop (mkF m 40 #[.val (.int p0)] [])) _
            refine XS.iloadN X0.here hx rfl (hb hby d4_40) rfl ?_
            show Steps p.tables e below (s₁.setTop (mkF m 41 #[.val (.int p0)] [(.int p0)])) _
            refine XS.bipush X0.here hx rfl (hb hby d4_41) ?_
            exact kt
          by_cases hc43_139 : p0 = (25 : Int32)
          case pos =>
            obtain ⟨T140, X140, e140, st140⟩ := getS2 X0 hx hZ hown (host := "") (Or.inl (hw _ (List.mem_of_getElem? (i := 60) rfl))) Via.refl e0 Sv_TEXT (g := (mkF m 46 #[.val (.int p0)] [])) rfl (hb hby d4_46)
            obtain ⟨fs, hrT, hrunT, hendT, hWT, hsameT⟩ := X140.leave (hlocks := BodyLoose.notSynchronized Bd) (v := some (.ref v_TEXT)) (fun h => by rw [Bd.returns] at h; cases h)
            refine ⟨_, _, S138 _ ?_, hrunT, hendT, _, _, rfl, ?_, ⟨_, rfl⟩, hWT, hsameT.mono (by decide) (by decide)⟩
            · show Steps p.tables e below (s₁.setTop (mkF m 43 #[.val (.int p0)] [(.int (25 : Int32)), (.int p0)])) _
              refine XS.icmpNo X0.here hx rfl (hb hby d4_43) rfl (XT.ii_ne_f hc43_139) ?_
              show Steps p.tables e below (s₁.setTop (mkF m 46 #[.val (.int p0)] [])) _
              refine st140 _ ?_
              show Steps p.tables e below (T140.setTop (mkF m 49 #[.val (.int p0)] [(.ref v_TEXT)])) _
              exact retOut X140 hx Bd.returns rfl (by right; right; right; right; exact ⟨rfl, rfl, rfl⟩) (hb hby d4_49) hrT
            · show Q4 Z p0 v_BOOL v_INT2 v_INT4 v_INT8 v_TEXT v_VARCHAR v_BPCHAR v_NAME v_FLOAT4 v_FLOAT8 v_NUMERIC v_DATE v_TIME v_TIMESTAMP v_TIMESTAMPTZ h0 n0 _ T140.heap _
              rw [e140]
              have hv : f_ref p0 v_BOOL v_INT2 v_INT4 v_INT8 v_TEXT v_VARCHAR v_BPCHAR v_NAME v_FLOAT4 v_FLOAT8 v_NUMERIC v_DATE v_TIME v_TIMESTAMP v_TIMESTAMPTZ = (.ref v_TEXT) := by unfold f_ref; rw [if_neg hc3_127]; rw [if_neg hc13_130]; rw [if_neg hc23_133]; rw [if_neg hc33_136]; rw [if_pos hc43_139]
              exact ⟨(congrArg some hv.symm), N0, rfl⟩
          case neg =>
            have S141 : ∀ t, Steps p.tables e below (s₁.setTop (mkF m 54 #[.val (.int p0)] [(.int (1043 : Int32)), (.int p0)])) t → Steps p.tables e below (s₁.setTop (entryFrame m #[(.int p0)] 1)) t := by
              intro t kt
              refine S138 _ ?_
              show Steps p.tables e below (s₁.setTop (mkF m 43 #[.val (.int p0)] [(.int (25 : Int32)), (.int p0)])) _
              refine XS.icmpYes X0.here hx rfl (pc0 := 43) (pc' := 50) rfl (hb hby d4_43) rfl (XT.ii_ne_t hc43_139) (by decide) (by decide) ?_
              show Steps p.tables e below (s₁.setTop (mkF m 50 #[.val (.int p0)] [])) _
              refine XS.iloadN X0.here hx rfl (hb hby d4_50) rfl ?_
              show Steps p.tables e below (s₁.setTop (mkF m 51 #[.val (.int p0)] [(.int p0)])) _
              refine XS.sipush X0.here hx rfl (hb hby d4_51) ?_
              exact kt
            by_cases hc54_142 : p0 = (1043 : Int32)
            case pos =>
              obtain ⟨T143, X143, e143, st143⟩ := getS2 X0 hx hZ hown (host := "") (Or.inl (hw _ (List.mem_of_getElem? (i := 55) rfl))) Via.refl e0 Sv_VARCHAR (g := (mkF m 57 #[.val (.int p0)] [])) rfl (hb hby d4_57)
              obtain ⟨fs, hrT, hrunT, hendT, hWT, hsameT⟩ := X143.leave (hlocks := BodyLoose.notSynchronized Bd) (v := some (.ref v_VARCHAR)) (fun h => by rw [Bd.returns] at h; cases h)
              refine ⟨_, _, S141 _ ?_, hrunT, hendT, _, _, rfl, ?_, ⟨_, rfl⟩, hWT, hsameT.mono (by decide) (by decide)⟩
              · show Steps p.tables e below (s₁.setTop (mkF m 54 #[.val (.int p0)] [(.int (1043 : Int32)), (.int p0)])) _
                refine XS.icmpNo X0.here hx rfl (hb hby d4_54) rfl (XT.ii_ne_f hc54_142) ?_
                show Steps p.tables e below (s₁.setTop (mkF m 57 #[.val (.int p0)] [])) _
                refine st143 _ ?_
                show Steps p.tables e below (T143.setTop (mkF m 60 #[.val (.int p0)] [(.ref v_VARCHAR)])) _
                exact retOut X143 hx Bd.returns rfl (by right; right; right; right; exact ⟨rfl, rfl, rfl⟩) (hb hby d4_60) hrT
              · show Q4 Z p0 v_BOOL v_INT2 v_INT4 v_INT8 v_TEXT v_VARCHAR v_BPCHAR v_NAME v_FLOAT4 v_FLOAT8 v_NUMERIC v_DATE v_TIME v_TIMESTAMP v_TIMESTAMPTZ h0 n0 _ T143.heap _
                rw [e143]
                have hv : f_ref p0 v_BOOL v_INT2 v_INT4 v_INT8 v_TEXT v_VARCHAR v_BPCHAR v_NAME v_FLOAT4 v_FLOAT8 v_NUMERIC v_DATE v_TIME v_TIMESTAMP v_TIMESTAMPTZ = (.ref v_VARCHAR) := by unfold f_ref; rw [if_neg hc3_127]; rw [if_neg hc13_130]; rw [if_neg hc23_133]; rw [if_neg hc33_136]; rw [if_neg hc43_139]; rw [if_pos hc54_142]
                exact ⟨(congrArg some hv.symm), N0, rfl⟩
            case neg =>
              have S144 : ∀ t, Steps p.tables e below (s₁.setTop (mkF m 65 #[.val (.int p0)] [(.int (1042 : Int32)), (.int p0)])) t → Steps p.tables e below (s₁.setTop (entryFrame m #[(.int p0)] 1)) t := by
                intro t kt
                refine S141 _ ?_
                show Steps p.tables e below (s₁.setTop (mkF m 54 #[.val (.int p0)] [(.int (1043 : Int32)), (.int p0)])) _
                refine XS.icmpYes X0.here hx rfl (pc0 := 54) (pc' := 61) rfl (hb hby d4_54) rfl (XT.ii_ne_t hc54_142) (by decide) (by decide) ?_
                show Steps p.tables e below (s₁.setTop (mkF m 61 #[.val (.int p0)] [])) _
                refine XS.iloadN X0.here hx rfl (hb hby d4_61) rfl ?_
                show Steps p.tables e below (s₁.setTop (mkF m 62 #[.val (.int p0)] [(.int p0)])) _
                refine XS.sipush X0.here hx rfl (hb hby d4_62) ?_
                exact kt
              by_cases hc65_145 : p0 = (1042 : Int32)
              case pos =>
                obtain ⟨T146, X146, e146, st146⟩ := getS2 X0 hx hZ hown (host := "") (Or.inl (hw _ (List.mem_of_getElem? (i := 54) rfl))) Via.refl e0 Sv_BPCHAR (g := (mkF m 68 #[.val (.int p0)] [])) rfl (hb hby d4_68)
                obtain ⟨fs, hrT, hrunT, hendT, hWT, hsameT⟩ := X146.leave (hlocks := BodyLoose.notSynchronized Bd) (v := some (.ref v_BPCHAR)) (fun h => by rw [Bd.returns] at h; cases h)
                refine ⟨_, _, S144 _ ?_, hrunT, hendT, _, _, rfl, ?_, ⟨_, rfl⟩, hWT, hsameT.mono (by decide) (by decide)⟩
                · show Steps p.tables e below (s₁.setTop (mkF m 65 #[.val (.int p0)] [(.int (1042 : Int32)), (.int p0)])) _
                  refine XS.icmpNo X0.here hx rfl (hb hby d4_65) rfl (XT.ii_ne_f hc65_145) ?_
                  show Steps p.tables e below (s₁.setTop (mkF m 68 #[.val (.int p0)] [])) _
                  refine st146 _ ?_
                  show Steps p.tables e below (T146.setTop (mkF m 71 #[.val (.int p0)] [(.ref v_BPCHAR)])) _
                  exact retOut X146 hx Bd.returns rfl (by right; right; right; right; exact ⟨rfl, rfl, rfl⟩) (hb hby d4_71) hrT
                · show Q4 Z p0 v_BOOL v_INT2 v_INT4 v_INT8 v_TEXT v_VARCHAR v_BPCHAR v_NAME v_FLOAT4 v_FLOAT8 v_NUMERIC v_DATE v_TIME v_TIMESTAMP v_TIMESTAMPTZ h0 n0 _ T146.heap _
                  rw [e146]
                  have hv : f_ref p0 v_BOOL v_INT2 v_INT4 v_INT8 v_TEXT v_VARCHAR v_BPCHAR v_NAME v_FLOAT4 v_FLOAT8 v_NUMERIC v_DATE v_TIME v_TIMESTAMP v_TIMESTAMPTZ = (.ref v_BPCHAR) := by unfold f_ref; rw [if_neg hc3_127]; rw [if_neg hc13_130]; rw [if_neg hc23_133]; rw [if_neg hc33_136]; rw [if_neg hc43_139]; rw [if_neg hc54_142]; rw [if_pos hc65_145]
                  exact ⟨(congrArg some hv.symm), N0, rfl⟩
              case neg =>
                have S147 : ∀ t, Steps p.tables e below (s₁.setTop (mkF m 75 #[.val (.int p0)] [(.int (19 : Int32)), (.int p0)])) t → Steps p.tables e below (s₁.setTop (entryFrame m #[(.int p0)] 1)) t := by
                  intro t kt
                  refine S144 _ ?_
                  show Steps p.tables e below (s₁.setTop (mkF m 65 #[.val (.int p0)] [(.int (1042 : Int32)), (.int p0)])) _
                  refine XS.icmpYes X0.here hx rfl (pc0 := 65) (pc' := 72) rfl (hb hby d4_65) rfl (XT.ii_ne_t hc65_145) (by decide) (by decide) ?_
                  show Steps p.tables e below (s₁.setTop (mkF m 72 #[.val (.int p0)] [])) _
                  refine XS.iloadN X0.here hx rfl (hb hby d4_72) rfl ?_
                  show Steps p.tables e below (s₁.setTop (mkF m 73 #[.val (.int p0)] [(.int p0)])) _
                  refine XS.bipush X0.here hx rfl (hb hby d4_73) ?_
                  exact kt
                by_cases hc75_148 : p0 = (19 : Int32)
                case pos =>
                  obtain ⟨T149, X149, e149, st149⟩ := getS2 X0 hx hZ hown (host := "") (Or.inl (hw _ (List.mem_of_getElem? (i := 59) rfl))) Via.refl e0 Sv_NAME (g := (mkF m 78 #[.val (.int p0)] [])) rfl (hb hby d4_78)
                  obtain ⟨fs, hrT, hrunT, hendT, hWT, hsameT⟩ := X149.leave (hlocks := BodyLoose.notSynchronized Bd) (v := some (.ref v_NAME)) (fun h => by rw [Bd.returns] at h; cases h)
                  refine ⟨_, _, S147 _ ?_, hrunT, hendT, _, _, rfl, ?_, ⟨_, rfl⟩, hWT, hsameT.mono (by decide) (by decide)⟩
                  · show Steps p.tables e below (s₁.setTop (mkF m 75 #[.val (.int p0)] [(.int (19 : Int32)), (.int p0)])) _
                    refine XS.icmpNo X0.here hx rfl (hb hby d4_75) rfl (XT.ii_ne_f hc75_148) ?_
                    show Steps p.tables e below (s₁.setTop (mkF m 78 #[.val (.int p0)] [])) _
                    refine st149 _ ?_
                    show Steps p.tables e below (T149.setTop (mkF m 81 #[.val (.int p0)] [(.ref v_NAME)])) _
                    exact retOut X149 hx Bd.returns rfl (by right; right; right; right; exact ⟨rfl, rfl, rfl⟩) (hb hby d4_81) hrT
                  · show Q4 Z p0 v_BOOL v_INT2 v_INT4 v_INT8 v_TEXT v_VARCHAR v_BPCHAR v_NAME v_FLOAT4 v_FLOAT8 v_NUMERIC v_DATE v_TIME v_TIMESTAMP v_TIMESTAMPTZ h0 n0 _ T149.heap _
                    rw [e149]
                    have hv : f_ref p0 v_BOOL v_INT2 v_INT4 v_INT8 v_TEXT v_VARCHAR v_BPCHAR v_NAME v_FLOAT4 v_FLOAT8 v_NUMERIC v_DATE v_TIME v_TIMESTAMP v_TIMESTAMPTZ = (.ref v_NAME) := by unfold f_ref; rw [if_neg hc3_127]; rw [if_neg hc13_130]; rw [if_neg hc23_133]; rw [if_neg hc33_136]; rw [if_neg hc43_139]; rw [if_neg hc54_142]; rw [if_neg hc65_145]; rw [if_pos hc75_148]
                    exact ⟨(congrArg some hv.symm), N0, rfl⟩
                case neg =>
                  have S150 : ∀ t, Steps p.tables e below (s₁.setTop (mkF m 86 #[.val (.int p0)] [(.int (700 : Int32)), (.int p0)])) t → Steps p.tables e below (s₁.setTop (entryFrame m #[(.int p0)] 1)) t := by
                    intro t kt
                    refine S147 _ ?_
                    show Steps p.tables e below (s₁.setTop (mkF m 75 #[.val (.int p0)] [(.int (19 : Int32)), (.int p0)])) _
                    refine XS.icmpYes X0.here hx rfl (pc0 := 75) (pc' := 82) rfl (hb hby d4_75) rfl (XT.ii_ne_t hc75_148) (by decide) (by decide) ?_
                    show Steps p.tables e below (s₁.setTop (mkF m 82 #[.val (.int p0)] [])) _
                    refine XS.iloadN X0.here hx rfl (hb hby d4_82) rfl ?_
                    show Steps p.tables e below (s₁.setTop (mkF m 83 #[.val (.int p0)] [(.int p0)])) _
                    refine XS.sipush X0.here hx rfl (hb hby d4_83) ?_
                    exact kt
                  by_cases hc86_151 : p0 = (700 : Int32)
                  case pos =>
                    obtain ⟨T152, X152, e152, st152⟩ := getS2 X0 hx hZ hown (host := "") (Or.inl (hw _ (List.mem_of_getElem? (i := 63) rfl))) Via.refl e0 Sv_FLOAT4 (g := (mkF m 89 #[.val (.int p0)] [])) rfl (hb hby d4_89)
                    obtain ⟨fs, hrT, hrunT, hendT, hWT, hsameT⟩ := X152.leave (hlocks := BodyLoose.notSynchronized Bd) (v := some (.ref v_FLOAT4)) (fun h => by rw [Bd.returns] at h; cases h)
                    refine ⟨_, _, S150 _ ?_, hrunT, hendT, _, _, rfl, ?_, ⟨_, rfl⟩, hWT, hsameT.mono (by decide) (by decide)⟩
                    · show Steps p.tables e below (s₁.setTop (mkF m 86 #[.val (.int p0)] [(.int (700 : Int32)), (.int p0)])) _
                      refine XS.icmpNo X0.here hx rfl (hb hby d4_86) rfl (XT.ii_ne_f hc86_151) ?_
                      show Steps p.tables e below (s₁.setTop (mkF m 89 #[.val (.int p0)] [])) _
                      refine st152 _ ?_
                      show Steps p.tables e below (T152.setTop (mkF m 92 #[.val (.int p0)] [(.ref v_FLOAT4)])) _
                      exact retOut X152 hx Bd.returns rfl (by right; right; right; right; exact ⟨rfl, rfl, rfl⟩) (hb hby d4_92) hrT
                    · show Q4 Z p0 v_BOOL v_INT2 v_INT4 v_INT8 v_TEXT v_VARCHAR v_BPCHAR v_NAME v_FLOAT4 v_FLOAT8 v_NUMERIC v_DATE v_TIME v_TIMESTAMP v_TIMESTAMPTZ h0 n0 _ T152.heap _
                      rw [e152]
                      have hv : f_ref p0 v_BOOL v_INT2 v_INT4 v_INT8 v_TEXT v_VARCHAR v_BPCHAR v_NAME v_FLOAT4 v_FLOAT8 v_NUMERIC v_DATE v_TIME v_TIMESTAMP v_TIMESTAMPTZ = (.ref v_FLOAT4) := by unfold f_ref; rw [if_neg hc3_127]; rw [if_neg hc13_130]; rw [if_neg hc23_133]; rw [if_neg hc33_136]; rw [if_neg hc43_139]; rw [if_neg hc54_142]; rw [if_neg hc65_145]; rw [if_neg hc75_148]; rw [if_pos hc86_151]
                      exact ⟨(congrArg some hv.symm), N0, rfl⟩
                  case neg =>
                    have S153 : ∀ t, Steps p.tables e below (s₁.setTop (mkF m 97 #[.val (.int p0)] [(.int (701 : Int32)), (.int p0)])) t → Steps p.tables e below (s₁.setTop (entryFrame m #[(.int p0)] 1)) t := by
                      intro t kt
                      refine S150 _ ?_
                      show Steps p.tables e below (s₁.setTop (mkF m 86 #[.val (.int p0)] [(.int (700 : Int32)), (.int p0)])) _
                      refine XS.icmpYes X0.here hx rfl (pc0 := 86) (pc' := 93) rfl (hb hby d4_86) rfl (XT.ii_ne_t hc86_151) (by decide) (by decide) ?_
                      show Steps p.tables e below (s₁.setTop (mkF m 93 #[.val (.int p0)] [])) _
                      refine XS.iloadN X0.here hx rfl (hb hby d4_93) rfl ?_
                      show Steps p.tables e below (s₁.setTop (mkF m 94 #[.val (.int p0)] [(.int p0)])) _
                      refine XS.sipush X0.here hx rfl (hb hby d4_94) ?_
                      exact kt
                    by_cases hc97_154 : p0 = (701 : Int32)
                    case pos =>
                      obtain ⟨T155, X155, e155, st155⟩ := getS2 X0 hx hZ hown (host := "") (Or.inl (hw _ (List.mem_of_getElem? (i := 56) rfl))) Via.refl e0 Sv_FLOAT8 (g := (mkF m 100 #[.val (.int p0)] [])) rfl (hb hby d4_100)
                      obtain ⟨fs, hrT, hrunT, hendT, hWT, hsameT⟩ := X155.leave (hlocks := BodyLoose.notSynchronized Bd) (v := some (.ref v_FLOAT8)) (fun h => by rw [Bd.returns] at h; cases h)
                      refine ⟨_, _, S153 _ ?_, hrunT, hendT, _, _, rfl, ?_, ⟨_, rfl⟩, hWT, hsameT.mono (by decide) (by decide)⟩
                      · show Steps p.tables e below (s₁.setTop (mkF m 97 #[.val (.int p0)] [(.int (701 : Int32)), (.int p0)])) _
                        refine XS.icmpNo X0.here hx rfl (hb hby d4_97) rfl (XT.ii_ne_f hc97_154) ?_
                        show Steps p.tables e below (s₁.setTop (mkF m 100 #[.val (.int p0)] [])) _
                        refine st155 _ ?_
                        show Steps p.tables e below (T155.setTop (mkF m 103 #[.val (.int p0)] [(.ref v_FLOAT8)])) _
                        exact retOut X155 hx Bd.returns rfl (by right; right; right; right; exact ⟨rfl, rfl, rfl⟩) (hb hby d4_103) hrT
                      · show Q4 Z p0 v_BOOL v_INT2 v_INT4 v_INT8 v_TEXT v_VARCHAR v_BPCHAR v_NAME v_FLOAT4 v_FLOAT8 v_NUMERIC v_DATE v_TIME v_TIMESTAMP v_TIMESTAMPTZ h0 n0 _ T155.heap _
                        rw [e155]
                        have hv : f_ref p0 v_BOOL v_INT2 v_INT4 v_INT8 v_TEXT v_VARCHAR v_BPCHAR v_NAME v_FLOAT4 v_FLOAT8 v_NUMERIC v_DATE v_TIME v_TIMESTAMP v_TIMESTAMPTZ = (.ref v_FLOAT8) := by unfold f_ref; rw [if_neg hc3_127]; rw [if_neg hc13_130]; rw [if_neg hc23_133]; rw [if_neg hc33_136]; rw [if_neg hc43_139]; rw [if_neg hc54_142]; rw [if_neg hc65_145]; rw [if_neg hc75_148]; rw [if_neg hc86_151]; rw [if_pos hc97_154]
                        exact ⟨(congrArg some hv.symm), N0, rfl⟩
                    case neg =>
                      have S156 : ∀ t, Steps p.tables e below (s₁.setTop (mkF m 108 #[.val (.int p0)] [(.int (1700 : Int32)), (.int p0)])) t → Steps p.tables e below (s₁.setTop (entryFrame m #[(.int p0)] 1)) t := by
                        intro t kt
                        refine S153 _ ?_
                        show Steps p.tables e below (s₁.setTop (mkF m 97 #[.val (.int p0)] [(.int (701 : Int32)), (.int p0)])) _
                        refine XS.icmpYes X0.here hx rfl (pc0 := 97) (pc' := 104) rfl (hb hby d4_97) rfl (XT.ii_ne_t hc97_154) (by decide) (by decide) ?_
                        show Steps p.tables e below (s₁.setTop (mkF m 104 #[.val (.int p0)] [])) _
                        refine XS.iloadN X0.here hx rfl (hb hby d4_104) rfl ?_
                        show Steps p.tables e below (s₁.setTop (mkF m 105 #[.val (.int p0)] [(.int p0)])) _
                        refine XS.sipush X0.here hx rfl (hb hby d4_105) ?_
                        exact kt
                      by_cases hc108_157 : p0 = (1700 : Int32)
                      case pos =>
                        obtain ⟨T158, X158, e158, st158⟩ := getS2 X0 hx hZ hown (host := "") (Or.inl (hw _ (List.mem_of_getElem? (i := 61) rfl))) Via.refl e0 Sv_NUMERIC (g := (mkF m 111 #[.val (.int p0)] [])) rfl (hb hby d4_111)
                        obtain ⟨fs, hrT, hrunT, hendT, hWT, hsameT⟩ := X158.leave (hlocks := BodyLoose.notSynchronized Bd) (v := some (.ref v_NUMERIC)) (fun h => by rw [Bd.returns] at h; cases h)
                        refine ⟨_, _, S156 _ ?_, hrunT, hendT, _, _, rfl, ?_, ⟨_, rfl⟩, hWT, hsameT.mono (by decide) (by decide)⟩
                        · show Steps p.tables e below (s₁.setTop (mkF m 108 #[.val (.int p0)] [(.int (1700 : Int32)), (.int p0)])) _
                          refine XS.icmpNo X0.here hx rfl (hb hby d4_108) rfl (XT.ii_ne_f hc108_157) ?_
                          show Steps p.tables e below (s₁.setTop (mkF m 111 #[.val (.int p0)] [])) _
                          refine st158 _ ?_
                          show Steps p.tables e below (T158.setTop (mkF m 114 #[.val (.int p0)] [(.ref v_NUMERIC)])) _
                          exact retOut X158 hx Bd.returns rfl (by right; right; right; right; exact ⟨rfl, rfl, rfl⟩) (hb hby d4_114) hrT
                        · show Q4 Z p0 v_BOOL v_INT2 v_INT4 v_INT8 v_TEXT v_VARCHAR v_BPCHAR v_NAME v_FLOAT4 v_FLOAT8 v_NUMERIC v_DATE v_TIME v_TIMESTAMP v_TIMESTAMPTZ h0 n0 _ T158.heap _
                          rw [e158]
                          have hv : f_ref p0 v_BOOL v_INT2 v_INT4 v_INT8 v_TEXT v_VARCHAR v_BPCHAR v_NAME v_FLOAT4 v_FLOAT8 v_NUMERIC v_DATE v_TIME v_TIMESTAMP v_TIMESTAMPTZ = (.ref v_NUMERIC) := by unfold f_ref; rw [if_neg hc3_127]; rw [if_neg hc13_130]; rw [if_neg hc23_133]; rw [if_neg hc33_136]; rw [if_neg hc43_139]; rw [if_neg hc54_142]; rw [if_neg hc65_145]; rw [if_neg hc75_148]; rw [if_neg hc86_151]; rw [if_neg hc97_154]; rw [if_pos hc108_157]
                          exact ⟨(congrArg some hv.symm), N0, rfl⟩
                      case neg =>
                        have S159 : ∀ t, Steps p.tables e below (s₁.setTop (mkF m 119 #[.val (.int p0)] [(.int (1082 : Int32)), (.int p0)])) t → Steps p.tables e below (s₁.setTop (entryFrame m #[(.int p0)] 1)) t := by
                          intro t kt
                          refine S156 _ ?_
                          show Steps p.tables e below (s₁.setTop (mkF m 108 #[.val (.int p0)] [(.int (1700 : Int32)), (.int p0)])) _
                          refine XS.icmpYes X0.here hx rfl (pc0 := 108) (pc' := 115) rfl (hb hby d4_108) rfl (XT.ii_ne_t hc108_157) (by decide) (by decide) ?_
                          show Steps p.tables e below (s₁.setTop (mkF m 115 #[.val (.int p0)] [])) _
                          refine XS.iloadN X0.here hx rfl (hb hby d4_115) rfl ?_
                          show Steps p.tables e below (s₁.setTop (mkF m 116 #[.val (.int p0)] [(.int p0)])) _
                          refine XS.sipush X0.here hx rfl (hb hby d4_116) ?_
                          exact kt
                        by_cases hc119_160 : p0 = (1082 : Int32)
                        case pos =>
                          obtain ⟨T161, X161, e161, st161⟩ := getS2 X0 hx hZ hown (host := "") (Or.inl (hw _ (List.mem_of_getElem? (i := 62) rfl))) Via.refl e0 Sv_DATE (g := (mkF m 122 #[.val (.int p0)] [])) rfl (hb hby d4_122)
                          obtain ⟨fs, hrT, hrunT, hendT, hWT, hsameT⟩ := X161.leave (hlocks := BodyLoose.notSynchronized Bd) (v := some (.ref v_DATE)) (fun h => by rw [Bd.returns] at h; cases h)
                          refine ⟨_, _, S159 _ ?_, hrunT, hendT, _, _, rfl, ?_, ⟨_, rfl⟩, hWT, hsameT.mono (by decide) (by decide)⟩
                          · show Steps p.tables e below (s₁.setTop (mkF m 119 #[.val (.int p0)] [(.int (1082 : Int32)), (.int p0)])) _
                            refine XS.icmpNo X0.here hx rfl (hb hby d4_119) rfl (XT.ii_ne_f hc119_160) ?_
                            show Steps p.tables e below (s₁.setTop (mkF m 122 #[.val (.int p0)] [])) _
                            refine st161 _ ?_
                            show Steps p.tables e below (T161.setTop (mkF m 125 #[.val (.int p0)] [(.ref v_DATE)])) _
                            exact retOut X161 hx Bd.returns rfl (by right; right; right; right; exact ⟨rfl, rfl, rfl⟩) (hb hby d4_125) hrT
                          · show Q4 Z p0 v_BOOL v_INT2 v_INT4 v_INT8 v_TEXT v_VARCHAR v_BPCHAR v_NAME v_FLOAT4 v_FLOAT8 v_NUMERIC v_DATE v_TIME v_TIMESTAMP v_TIMESTAMPTZ h0 n0 _ T161.heap _
                            rw [e161]
                            have hv : f_ref p0 v_BOOL v_INT2 v_INT4 v_INT8 v_TEXT v_VARCHAR v_BPCHAR v_NAME v_FLOAT4 v_FLOAT8 v_NUMERIC v_DATE v_TIME v_TIMESTAMP v_TIMESTAMPTZ = (.ref v_DATE) := by unfold f_ref; rw [if_neg hc3_127]; rw [if_neg hc13_130]; rw [if_neg hc23_133]; rw [if_neg hc33_136]; rw [if_neg hc43_139]; rw [if_neg hc54_142]; rw [if_neg hc65_145]; rw [if_neg hc75_148]; rw [if_neg hc86_151]; rw [if_neg hc97_154]; rw [if_neg hc108_157]; rw [if_pos hc119_160]
                            exact ⟨(congrArg some hv.symm), N0, rfl⟩
                        case neg =>
                          have S162 : ∀ t, Steps p.tables e below (s₁.setTop (mkF m 130 #[.val (.int p0)] [(.int (1083 : Int32)), (.int p0)])) t → Steps p.tables e below (s₁.setTop (entryFrame m #[(.int p0)] 1)) t := by
                            intro t kt
                            refine S159 _ ?_
                            show Steps p.tables e below (s₁.setTop (mkF m 119 #[.val (.int p0)] [(.int (1082 : Int32)), (.int p0)])) _
                            refine XS.icmpYes X0.here hx rfl (pc0 := 119) (pc' := 126) rfl (hb hby d4_119) rfl (XT.ii_ne_t hc119_160) (by decide) (by decide) ?_
                            show Steps p.tables e below (s₁.setTop (mkF m 126 #[.val (.int p0)] [])) _
                            refine XS.iloadN X0.here hx rfl (hb hby d4_126) rfl ?_
                            show Steps p.tables e below (s₁.setTop (mkF m 127 #[.val (.int p0)] [(.int p0)])) _
                            refine XS.sipush X0.here hx rfl (hb hby d4_127) ?_
                            exact kt
                          by_cases hc130_163 : p0 = (1083 : Int32)
                          case pos =>
                            obtain ⟨T164, X164, e164, st164⟩ := getS2 X0 hx hZ hown (host := "") (Or.inl (hw _ (List.mem_of_getElem? (i := 50) rfl))) Via.refl e0 Sv_TIME (g := (mkF m 133 #[.val (.int p0)] [])) rfl (hb hby d4_133)
                            obtain ⟨fs, hrT, hrunT, hendT, hWT, hsameT⟩ := X164.leave (hlocks := BodyLoose.notSynchronized Bd) (v := some (.ref v_TIME)) (fun h => by rw [Bd.returns] at h; cases h)
                            refine ⟨_, _, S162 _ ?_, hrunT, hendT, _, _, rfl, ?_, ⟨_, rfl⟩, hWT, hsameT.mono (by decide) (by decide)⟩
                            · show Steps p.tables e below (s₁.setTop (mkF m 130 #[.val (.int p0)] [(.int (1083 : Int32)), (.int p0)])) _
                              refine XS.icmpNo X0.here hx rfl (hb hby d4_130) rfl (XT.ii_ne_f hc130_163) ?_
                              show Steps p.tables e below (s₁.setTop (mkF m 133 #[.val (.int p0)] [])) _
                              refine st164 _ ?_
                              show Steps p.tables e below (T164.setTop (mkF m 136 #[.val (.int p0)] [(.ref v_TIME)])) _
                              exact retOut X164 hx Bd.returns rfl (by right; right; right; right; exact ⟨rfl, rfl, rfl⟩) (hb hby d4_136) hrT
                            · show Q4 Z p0 v_BOOL v_INT2 v_INT4 v_INT8 v_TEXT v_VARCHAR v_BPCHAR v_NAME v_FLOAT4 v_FLOAT8 v_NUMERIC v_DATE v_TIME v_TIMESTAMP v_TIMESTAMPTZ h0 n0 _ T164.heap _
                              rw [e164]
                              have hv : f_ref p0 v_BOOL v_INT2 v_INT4 v_INT8 v_TEXT v_VARCHAR v_BPCHAR v_NAME v_FLOAT4 v_FLOAT8 v_NUMERIC v_DATE v_TIME v_TIMESTAMP v_TIMESTAMPTZ = (.ref v_TIME) := by unfold f_ref; rw [if_neg hc3_127]; rw [if_neg hc13_130]; rw [if_neg hc23_133]; rw [if_neg hc33_136]; rw [if_neg hc43_139]; rw [if_neg hc54_142]; rw [if_neg hc65_145]; rw [if_neg hc75_148]; rw [if_neg hc86_151]; rw [if_neg hc97_154]; rw [if_neg hc108_157]; rw [if_neg hc119_160]; rw [if_pos hc130_163]
                              exact ⟨(congrArg some hv.symm), N0, rfl⟩
                          case neg =>
                            have S165 : ∀ t, Steps p.tables e below (s₁.setTop (mkF m 141 #[.val (.int p0)] [(.int (1114 : Int32)), (.int p0)])) t → Steps p.tables e below (s₁.setTop (entryFrame m #[(.int p0)] 1)) t := by
                              intro t kt
                              refine S162 _ ?_
                              show Steps p.tables e below (s₁.setTop (mkF m 130 #[.val (.int p0)] [(.int (1083 : Int32)), (.int p0)])) _
                              refine XS.icmpYes X0.here hx rfl (pc0 := 130) (pc' := 137) rfl (hb hby d4_130) rfl (XT.ii_ne_t hc130_163) (by decide) (by decide) ?_
                              show Steps p.tables e below (s₁.setTop (mkF m 137 #[.val (.int p0)] [])) _
                              refine XS.iloadN X0.here hx rfl (hb hby d4_137) rfl ?_
                              show Steps p.tables e below (s₁.setTop (mkF m 138 #[.val (.int p0)] [(.int p0)])) _
                              refine XS.sipush X0.here hx rfl (hb hby d4_138) ?_
                              exact kt
                            by_cases hc141_166 : p0 = (1114 : Int32)
                            case pos =>
                              obtain ⟨T167, X167, e167, st167⟩ := getS2 X0 hx hZ hown (host := "") (Or.inl (hw _ (List.mem_of_getElem? (i := 57) rfl))) Via.refl e0 Sv_TIMESTAMP (g := (mkF m 144 #[.val (.int p0)] [])) rfl (hb hby d4_144)
                              obtain ⟨fs, hrT, hrunT, hendT, hWT, hsameT⟩ := X167.leave (hlocks := BodyLoose.notSynchronized Bd) (v := some (.ref v_TIMESTAMP)) (fun h => by rw [Bd.returns] at h; cases h)
                              refine ⟨_, _, S165 _ ?_, hrunT, hendT, _, _, rfl, ?_, ⟨_, rfl⟩, hWT, hsameT.mono (by decide) (by decide)⟩
                              · show Steps p.tables e below (s₁.setTop (mkF m 141 #[.val (.int p0)] [(.int (1114 : Int32)), (.int p0)])) _
                                refine XS.icmpNo X0.here hx rfl (hb hby d4_141) rfl (XT.ii_ne_f hc141_166) ?_
                                show Steps p.tables e below (s₁.setTop (mkF m 144 #[.val (.int p0)] [])) _
                                refine st167 _ ?_
                                show Steps p.tables e below (T167.setTop (mkF m 147 #[.val (.int p0)] [(.ref v_TIMESTAMP)])) _
                                exact retOut X167 hx Bd.returns rfl (by right; right; right; right; exact ⟨rfl, rfl, rfl⟩) (hb hby d4_147) hrT
                              · show Q4 Z p0 v_BOOL v_INT2 v_INT4 v_INT8 v_TEXT v_VARCHAR v_BPCHAR v_NAME v_FLOAT4 v_FLOAT8 v_NUMERIC v_DATE v_TIME v_TIMESTAMP v_TIMESTAMPTZ h0 n0 _ T167.heap _
                                rw [e167]
                                have hv : f_ref p0 v_BOOL v_INT2 v_INT4 v_INT8 v_TEXT v_VARCHAR v_BPCHAR v_NAME v_FLOAT4 v_FLOAT8 v_NUMERIC v_DATE v_TIME v_TIMESTAMP v_TIMESTAMPTZ = (.ref v_TIMESTAMP) := by unfold f_ref; rw [if_neg hc3_127]; rw [if_neg hc13_130]; rw [if_neg hc23_133]; rw [if_neg hc33_136]; rw [if_neg hc43_139]; rw [if_neg hc54_142]; rw [if_neg hc65_145]; rw [if_neg hc75_148]; rw [if_neg hc86_151]; rw [if_neg hc97_154]; rw [if_neg hc108_157]; rw [if_neg hc119_160]; rw [if_neg hc130_163]; rw [if_pos hc141_166]
                                exact ⟨(congrArg some hv.symm), N0, rfl⟩
                            case neg =>
                              have S168 : ∀ t, Steps p.tables e below (s₁.setTop (mkF m 152 #[.val (.int p0)] [(.int (1184 : Int32)), (.int p0)])) t → Steps p.tables e below (s₁.setTop (entryFrame m #[(.int p0)] 1)) t := by
                                intro t kt
                                refine S165 _ ?_
                                show Steps p.tables e below (s₁.setTop (mkF m 141 #[.val (.int p0)] [(.int (1114 : Int32)), (.int p0)])) _
                                refine XS.icmpYes X0.here hx rfl (pc0 := 141) (pc' := 148) rfl (hb hby d4_141) rfl (XT.ii_ne_t hc141_166) (by decide) (by decide) ?_
                                show Steps p.tables e below (s₁.setTop (mkF m 148 #[.val (.int p0)] [])) _
                                refine XS.iloadN X0.here hx rfl (hb hby d4_148) rfl ?_
                                show Steps p.tables e below (s₁.setTop (mkF m 149 #[.val (.int p0)] [(.int p0)])) _
                                refine XS.sipush X0.here hx rfl (hb hby d4_149) ?_
                                exact kt
                              by_cases hc152_169 : p0 = (1184 : Int32)
                              case pos =>
                                obtain ⟨T170, X170, e170, st170⟩ := getS2 X0 hx hZ hown (host := "") (Or.inl (hw _ (List.mem_of_getElem? (i := 51) rfl))) Via.refl e0 Sv_TIMESTAMPTZ (g := (mkF m 155 #[.val (.int p0)] [])) rfl (hb hby d4_155)
                                obtain ⟨fs, hrT, hrunT, hendT, hWT, hsameT⟩ := X170.leave (hlocks := BodyLoose.notSynchronized Bd) (v := some (.ref v_TIMESTAMPTZ)) (fun h => by rw [Bd.returns] at h; cases h)
                                refine ⟨_, _, S168 _ ?_, hrunT, hendT, _, _, rfl, ?_, ⟨_, rfl⟩, hWT, hsameT.mono (by decide) (by decide)⟩
                                · show Steps p.tables e below (s₁.setTop (mkF m 152 #[.val (.int p0)] [(.int (1184 : Int32)), (.int p0)])) _
                                  refine XS.icmpNo X0.here hx rfl (hb hby d4_152) rfl (XT.ii_ne_f hc152_169) ?_
                                  show Steps p.tables e below (s₁.setTop (mkF m 155 #[.val (.int p0)] [])) _
                                  refine st170 _ ?_
                                  show Steps p.tables e below (T170.setTop (mkF m 158 #[.val (.int p0)] [(.ref v_TIMESTAMPTZ)])) _
                                  exact retOut X170 hx Bd.returns rfl (by right; right; right; right; exact ⟨rfl, rfl, rfl⟩) (hb hby d4_158) hrT
                                · show Q4 Z p0 v_BOOL v_INT2 v_INT4 v_INT8 v_TEXT v_VARCHAR v_BPCHAR v_NAME v_FLOAT4 v_FLOAT8 v_NUMERIC v_DATE v_TIME v_TIMESTAMP v_TIMESTAMPTZ h0 n0 _ T170.heap _
                                  rw [e170]
                                  have hv : f_ref p0 v_BOOL v_INT2 v_INT4 v_INT8 v_TEXT v_VARCHAR v_BPCHAR v_NAME v_FLOAT4 v_FLOAT8 v_NUMERIC v_DATE v_TIME v_TIMESTAMP v_TIMESTAMPTZ = (.ref v_TIMESTAMPTZ) := by unfold f_ref; rw [if_neg hc3_127]; rw [if_neg hc13_130]; rw [if_neg hc23_133]; rw [if_neg hc33_136]; rw [if_neg hc43_139]; rw [if_neg hc54_142]; rw [if_neg hc65_145]; rw [if_neg hc75_148]; rw [if_neg hc86_151]; rw [if_neg hc97_154]; rw [if_neg hc108_157]; rw [if_neg hc119_160]; rw [if_neg hc130_163]; rw [if_neg hc141_166]; rw [if_pos hc152_169]
                                  exact ⟨(congrArg some hv.symm), N0, rfl⟩
                              case neg =>
                                obtain ⟨fs, hrT, hrunT, hendT, hWT, hsameT⟩ := X0.leave (hlocks := BodyLoose.notSynchronized Bd) (v := some .null) (fun h => by rw [Bd.returns] at h; cases h)
                                refine ⟨_, _, S168 _ ?_, hrunT, hendT, _, _, rfl, ?_, ⟨_, rfl⟩, hWT, hsameT.mono (by decide) (by decide)⟩
                                · show Steps p.tables e below (s₁.setTop (mkF m 152 #[.val (.int p0)] [(.int (1184 : Int32)), (.int p0)])) _
                                  refine XS.icmpYes X0.here hx rfl (pc0 := 152) (pc' := 159) rfl (hb hby d4_152) rfl (XT.ii_ne_t hc152_169) (by decide) (by decide) ?_
                                  show Steps p.tables e below (s₁.setTop (mkF m 159 #[.val (.int p0)] [])) _
                                  refine XS.aconstNull X0.here hx rfl (hb hby d4_159) ?_
                                  show Steps p.tables e below (s₁.setTop (mkF m 160 #[.val (.int p0)] [.null])) _
                                  exact retOut X0 hx Bd.returns rfl (by right; right; right; right; exact ⟨rfl, rfl, rfl⟩) (hb hby d4_160) hrT
                                · show Q4 Z p0 v_BOOL v_INT2 v_INT4 v_INT8 v_TEXT v_VARCHAR v_BPCHAR v_NAME v_FLOAT4 v_FLOAT8 v_NUMERIC v_DATE v_TIME v_TIMESTAMP v_TIMESTAMPTZ h0 n0 _ s₁.heap _
                                  rw [e0]
                                  have hv : f_ref p0 v_BOOL v_INT2 v_INT4 v_INT8 v_TEXT v_VARCHAR v_BPCHAR v_NAME v_FLOAT4 v_FLOAT8 v_NUMERIC v_DATE v_TIME v_TIMESTAMP v_TIMESTAMPTZ = .null := by unfold f_ref; rw [if_neg hc3_127]; rw [if_neg hc13_130]; rw [if_neg hc23_133]; rw [if_neg hc33_136]; rw [if_neg hc43_139]; rw [if_neg hc54_142]; rw [if_neg hc65_145]; rw [if_neg hc75_148]; rw [if_neg hc86_151]; rw [if_neg hc97_154]; rw [if_neg hc108_157]; rw [if_neg hc119_160]; rw [if_neg hc130_163]; rw [if_neg hc141_166]; rw [if_neg hc152_169]
                                  exact ⟨(congrArg some hv.symm), N0, rfl⟩
theorem d5_0 : decode prog_41_method_7_code 0 = .ok (.aload_n 0, 1) := by decide +kernel
theorem d5_1 : decode prog_41_method_7_code 1 = .ok (.getfield 68, 3) := by decide +kernel
theorem d5_4 : decode prog_41_method_7_code 4 = .ok (.ireturn, 1) := by decide +kernel
theorem ef5 (m : MethodId) (x0 : Addr) : entryFrame m #[(.ref x0)] 1 = mkF m 0 #[.val (.ref x0)] [] := by first | (simp [entryFrame, mkF, argsToLocals, Value.category]; done) | rfl
def Q5 (Z : State) (r0 : Addr) (u1 : Int32) (h0 : Heap) (n0 : Nat) (v : Option Value) (h : Heap) (L : List Loc) : Prop := v = some (.int u1) ∧ Fr n0 L ∧ h = h0
set_option maxRecDepth 65536 in
set_option maxHeartbeats 40000000 in
theorem rm5 (l : Launch) (Z : State) (a0 : Array Value) (hw : ∀ d ∈ tables_1, d.before a0 Z = true) (ws : List Jvm.Cond) (r0 : Addr) (u1 : Int32) (h0 : Heap) (n0 : Nat) (Z0 : n0 ≤ h0.size) (F1 : Fld Z h0 r0 "com/example/gatedb/gatedb/pgwire/PgType" "oid" "I" (.int u1)) :
    MetFree l (⟨"com/example/gatedb/gatedb/pgwire/PgType", "oid", "()I"⟩ : MethodName) (head1 (Jvm.Cond.code (⟨"com/example/gatedb/gatedb/pgwire/PgType", "oid", "()I"⟩ : MethodName) prog_41_method_7_code 1 (some .int) :: ws) ({ frames := 0, cells := 0, slots := 0, locals := 0 } : Room)) (fun a U => a = #[(.ref r0)] ∧ Z.Warmed39 U.vm ∧ U.heap = h0) (fun _ _ _ _ _ => True) (fun _ U o U' => ∃ v L, o = .returned v ∧ Q5 Z r0 u1 h0 n0 v U'.heap L ∧ FrameEnd U o U' L ({ frames := 0, cells := 0, slots := 0, locals := 0 } : Room).cells ({ frames := 0, cells := 0, slots := 0, locals := 0 } : Room).slots) := by
  refine MetFree.of_bodySF (plainFor_of_name pn_PgType) hisR ?_
  intro p e s m args below meth c s₁ Bd hml0 hP hK
  obtain ⟨rfl, hZ, hh⟩ := hP
  have hx := Bd.exec
  have hby := Bd.bytes
  have hml : c.maxLocals = 1 := hml0
  have hown : s.vm.findClass "com/example/gatedb/gatedb/pgwire/PgType" = some m.cls := findClass_of_methodNamed Bd.named
  have hnm := (name_of_methodNamed Bd.named Bd.method).1
  have X0 : Stand p l e ({ frames := 0, cells := 0, slots := 0, locals := 0 } : Room) s m #[(.ref r0)] below meth c s₁ [] 0 0 := Stand.of_body Bd
  have e0 : s₁.heap = h0 := by rw [← hh, Bd.state]; rfl
  have N0 := Fr.nil n0
  have pre0 : ∀ t, Steps p.tables e below (s₁.setTop (mkF m 0 #[.val (.ref r0)] [])) t → Steps p.tables e below (s₁.setTop (entryFrame m #[(.ref r0)] 1)) t := fun t k => castTop (ef5 m r0) k
  obtain ⟨T171, X171, e171, st171⟩ := getF X0 hx hZ hown (host := "") (Or.inl (hw _ (List.mem_of_getElem? (i := 39) rfl))) Via.refl e0 F1 (g := (mkF m 1 #[.val (.ref r0)] [(.ref r0)])) rfl rfl (hb hby d5_1)
  obtain ⟨fs, hrT, hrunT, hendT, hWT, hsameT⟩ := X171.leave (hlocks := BodyLoose.notSynchronized Bd) (v := some (.int u1)) (fun h => by rw [Bd.returns] at h; cases h)
  refine ⟨_, _, pre0 _ ?_, hrunT, hendT, _, _, rfl, ?_, ⟨_, rfl⟩, hWT, hsameT.mono (by decide) (by decide)⟩
  · show Steps p.tables e below (s₁.setTop (mkF m 0 #[.val (.ref r0)] [])) _
    refine XS.aloadN X0.here hx rfl (hb hby d5_0) rfl rfl ?_
    show Steps p.tables e below (s₁.setTop (mkF m 1 #[.val (.ref r0)] [(.ref r0)])) _
    refine st171 _ ?_
    show Steps p.tables e below (T171.setTop (mkF m 4 #[.val (.ref r0)] [(.int u1)])) _
    exact retI X171 hx Bd.returns (hb hby d5_4) hrT
  · show Q5 Z r0 u1 h0 n0 _ T171.heap _
    rw [e171]
    exact ⟨rfl, N0, rfl⟩
theorem own_same (x : Int32) (v_BOOL v_INT2 v_INT4 v_INT8 v_TEXT v_VARCHAR v_BPCHAR v_NAME v_FLOAT4 v_FLOAT8 v_NUMERIC v_DATE v_TIME v_TIMESTAMP v_TIMESTAMPTZ : Addr) : f_of x v_BOOL v_INT2 v_INT4 v_INT8 v_TEXT v_VARCHAR v_BPCHAR v_NAME v_FLOAT4 v_FLOAT8 v_NUMERIC v_DATE v_TIME v_TIMESTAMP v_TIMESTAMPTZ = f_ref x v_BOOL v_INT2 v_INT4 v_INT8 v_TEXT v_VARCHAR v_BPCHAR v_NAME v_FLOAT4 v_FLOAT8 v_NUMERIC v_DATE v_TIME v_TIMESTAMP v_TIMESTAMPTZ := by
  unfold f_of f_ref
  by_cases c16 : x = (16 : Int32)
  · subst c16; rw [if_neg (by decide), if_neg (by decide), if_neg (by decide), if_neg (by decide), if_neg (by decide), if_neg (by decide), if_neg (by decide), if_neg (by decide), if_neg (by decide), if_neg (by decide), if_neg (by decide), if_neg (by decide), if_neg (by decide), if_neg (by decide), if_pos rfl, if_pos rfl]
  by_cases c21 : x = (21 : Int32)
  · subst c21; rw [if_neg (by decide), if_neg (by decide), if_neg (by decide), if_neg (by decide), if_neg (by decide), if_neg (by decide), if_neg (by decide), if_neg (by decide), if_neg (by decide), if_neg (by decide), if_neg (by decide), if_neg (by decide), if_neg (by decide), if_pos rfl, if_neg (by decide), if_pos rfl]
  by_cases c23 : x = (23 : Int32)
  · subst c23; rw [if_neg (by decide), if_neg (by decide), if_neg (by decide), if_neg (by decide), if_neg (by decide), if_neg (by decide), if_neg (by decide), if_neg (by decide), if_neg (by decide), if_neg (by decide), if_neg (by decide), if_neg (by decide), if_pos rfl, if_neg (by decide), if_neg (by decide), if_pos rfl]
  by_cases c20 : x = (20 : Int32)
  · subst c20; rw [if_neg (by decide), if_neg (by decide), if_neg (by decide), if_neg (by decide), if_neg (by decide), if_neg (by decide), if_neg (by decide), if_neg (by decide), if_neg (by decide), if_neg (by decide), if_neg (by decide), if_pos rfl, if_neg (by decide), if_neg (by decide), if_neg (by decide), if_pos rfl]
  by_cases c25 : x = (25 : Int32)
  · subst c25; rw [if_neg (by decide), if_neg (by decide), if_neg (by decide), if_neg (by decide), if_neg (by decide), if_neg (by decide), if_neg (by decide), if_neg (by decide), if_neg (by decide), if_neg (by decide), if_pos rfl, if_neg (by decide), if_neg (by decide), if_neg (by decide), if_neg (by decide), if_pos rfl]
  by_cases c1043 : x = (1043 : Int32)
  · subst c1043; rw [if_neg (by decide), if_neg (by decide), if_neg (by decide), if_neg (by decide), if_neg (by decide), if_neg (by decide), if_neg (by decide), if_neg (by decide), if_neg (by decide), if_pos rfl, if_neg (by decide), if_neg (by decide), if_neg (by decide), if_neg (by decide), if_neg (by decide), if_pos rfl]
  by_cases c1042 : x = (1042 : Int32)
  · subst c1042; rw [if_neg (by decide), if_neg (by decide), if_neg (by decide), if_neg (by decide), if_neg (by decide), if_neg (by decide), if_neg (by decide), if_neg (by decide), if_pos rfl, if_neg (by decide), if_neg (by decide), if_neg (by decide), if_neg (by decide), if_neg (by decide), if_neg (by decide), if_pos rfl]
  by_cases c19 : x = (19 : Int32)
  · subst c19; rw [if_neg (by decide), if_neg (by decide), if_neg (by decide), if_neg (by decide), if_neg (by decide), if_neg (by decide), if_neg (by decide), if_pos rfl, if_neg (by decide), if_neg (by decide), if_neg (by decide), if_neg (by decide), if_neg (by decide), if_neg (by decide), if_neg (by decide), if_pos rfl]
  by_cases c700 : x = (700 : Int32)
  · subst c700; rw [if_neg (by decide), if_neg (by decide), if_neg (by decide), if_neg (by decide), if_neg (by decide), if_neg (by decide), if_pos rfl, if_neg (by decide), if_neg (by decide), if_neg (by decide), if_neg (by decide), if_neg (by decide), if_neg (by decide), if_neg (by decide), if_neg (by decide), if_pos rfl]
  by_cases c701 : x = (701 : Int32)
  · subst c701; rw [if_neg (by decide), if_neg (by decide), if_neg (by decide), if_neg (by decide), if_neg (by decide), if_pos rfl, if_neg (by decide), if_neg (by decide), if_neg (by decide), if_neg (by decide), if_neg (by decide), if_neg (by decide), if_neg (by decide), if_neg (by decide), if_neg (by decide), if_pos rfl]
  by_cases c1700 : x = (1700 : Int32)
  · subst c1700; rw [if_neg (by decide), if_neg (by decide), if_neg (by decide), if_neg (by decide), if_pos rfl, if_neg (by decide), if_neg (by decide), if_neg (by decide), if_neg (by decide), if_neg (by decide), if_neg (by decide), if_neg (by decide), if_neg (by decide), if_neg (by decide), if_neg (by decide), if_pos rfl]
  by_cases c1082 : x = (1082 : Int32)
  · subst c1082; rw [if_neg (by decide), if_neg (by decide), if_neg (by decide), if_pos rfl, if_neg (by decide), if_neg (by decide), if_neg (by decide), if_neg (by decide), if_neg (by decide), if_neg (by decide), if_neg (by decide), if_neg (by decide), if_neg (by decide), if_neg (by decide), if_neg (by decide), if_pos rfl]
  by_cases c1083 : x = (1083 : Int32)
  · subst c1083; rw [if_neg (by decide), if_neg (by decide), if_pos rfl, if_neg (by decide), if_neg (by decide), if_neg (by decide), if_neg (by decide), if_neg (by decide), if_neg (by decide), if_neg (by decide), if_neg (by decide), if_neg (by decide), if_neg (by decide), if_neg (by decide), if_neg (by decide), if_pos rfl]
  by_cases c1114 : x = (1114 : Int32)
  · subst c1114; rw [if_neg (by decide), if_pos rfl, if_neg (by decide), if_neg (by decide), if_neg (by decide), if_neg (by decide), if_neg (by decide), if_neg (by decide), if_neg (by decide), if_neg (by decide), if_neg (by decide), if_neg (by decide), if_neg (by decide), if_neg (by decide), if_neg (by decide), if_pos rfl]
  by_cases c1184 : x = (1184 : Int32)
  · subst c1184; rw [if_pos rfl, if_neg (by decide), if_neg (by decide), if_neg (by decide), if_neg (by decide), if_neg (by decide), if_neg (by decide), if_neg (by decide), if_neg (by decide), if_neg (by decide), if_neg (by decide), if_neg (by decide), if_neg (by decide), if_neg (by decide), if_neg (by decide), if_pos rfl]
  rw [if_neg (Ne.symm c1184), if_neg (Ne.symm c1114), if_neg (Ne.symm c1083), if_neg (Ne.symm c1082), if_neg (Ne.symm c1700), if_neg (Ne.symm c701), if_neg (Ne.symm c700), if_neg (Ne.symm c19), if_neg (Ne.symm c1042), if_neg (Ne.symm c1043), if_neg (Ne.symm c25), if_neg (Ne.symm c20), if_neg (Ne.symm c23), if_neg (Ne.symm c21), if_neg (Ne.symm c16), if_neg c16, if_neg c21, if_neg c23, if_neg c20, if_neg c25, if_neg c1043, if_neg c1042, if_neg c19, if_neg c700, if_neg c701, if_neg c1700, if_neg c1082, if_neg c1083, if_neg c1114, if_neg c1184]
theorem own_known {Z : State} {h : Heap} {v_BOOL v_INT2 v_INT4 v_INT8 v_TEXT v_VARCHAR v_BPCHAR v_NAME v_FLOAT4 v_FLOAT8 v_NUMERIC v_DATE v_TIME v_TIMESTAMP v_TIMESTAMPTZ : Addr} (EBOOL : Exa Z h v_BOOL "com/example/gatedb/gatedb/pgwire/PgType") (FBOOL : Fld Z h v_BOOL "com/example/gatedb/gatedb/pgwire/PgType" "oid" "I" (.int (16 : Int32))) (EINT2 : Exa Z h v_INT2 "com/example/gatedb/gatedb/pgwire/PgType") (FINT2 : Fld Z h v_INT2 "com/example/gatedb/gatedb/pgwire/PgType" "oid" "I" (.int (21 : Int32))) (EINT4 : Exa Z h v_INT4 "com/example/gatedb/gatedb/pgwire/PgType") (FINT4 : Fld Z h v_INT4 "com/example/gatedb/gatedb/pgwire/PgType" "oid" "I" (.int (23 : Int32))) (EINT8 : Exa Z h v_INT8 "com/example/gatedb/gatedb/pgwire/PgType") (FINT8 : Fld Z h v_INT8 "com/example/gatedb/gatedb/pgwire/PgType" "oid" "I" (.int (20 : Int32))) (ETEXT : Exa Z h v_TEXT "com/example/gatedb/gatedb/pgwire/PgType") (FTEXT : Fld Z h v_TEXT "com/example/gatedb/gatedb/pgwire/PgType" "oid" "I" (.int (25 : Int32))) (EVARCHAR : Exa Z h v_VARCHAR "com/example/gatedb/gatedb/pgwire/PgType") (FVARCHAR : Fld Z h v_VARCHAR "com/example/gatedb/gatedb/pgwire/PgType" "oid" "I" (.int (1043 : Int32))) (EBPCHAR : Exa Z h v_BPCHAR "com/example/gatedb/gatedb/pgwire/PgType") (FBPCHAR : Fld Z h v_BPCHAR "com/example/gatedb/gatedb/pgwire/PgType" "oid" "I" (.int (1042 : Int32))) (ENAME : Exa Z h v_NAME "com/example/gatedb/gatedb/pgwire/PgType") (FNAME : Fld Z h v_NAME "com/example/gatedb/gatedb/pgwire/PgType" "oid" "I" (.int (19 : Int32))) (EFLOAT4 : Exa Z h v_FLOAT4 "com/example/gatedb/gatedb/pgwire/PgType") (FFLOAT4 : Fld Z h v_FLOAT4 "com/example/gatedb/gatedb/pgwire/PgType" "oid" "I" (.int (700 : Int32))) (EFLOAT8 : Exa Z h v_FLOAT8 "com/example/gatedb/gatedb/pgwire/PgType") (FFLOAT8 : Fld Z h v_FLOAT8 "com/example/gatedb/gatedb/pgwire/PgType" "oid" "I" (.int (701 : Int32))) (ENUMERIC : Exa Z h v_NUMERIC "com/example/gatedb/gatedb/pgwire/PgType") (FNUMERIC : Fld Z h v_NUMERIC "com/example/gatedb/gatedb/pgwire/PgType" "oid" "I" (.int (1700 : Int32))) (EDATE : Exa Z h v_DATE "com/example/gatedb/gatedb/pgwire/PgType") (FDATE : Fld Z h v_DATE "com/example/gatedb/gatedb/pgwire/PgType" "oid" "I" (.int (1082 : Int32))) (ETIME : Exa Z h v_TIME "com/example/gatedb/gatedb/pgwire/PgType") (FTIME : Fld Z h v_TIME "com/example/gatedb/gatedb/pgwire/PgType" "oid" "I" (.int (1083 : Int32))) (ETIMESTAMP : Exa Z h v_TIMESTAMP "com/example/gatedb/gatedb/pgwire/PgType") (FTIMESTAMP : Fld Z h v_TIMESTAMP "com/example/gatedb/gatedb/pgwire/PgType" "oid" "I" (.int (1114 : Int32))) (ETIMESTAMPTZ : Exa Z h v_TIMESTAMPTZ "com/example/gatedb/gatedb/pgwire/PgType") (FTIMESTAMPTZ : Fld Z h v_TIMESTAMPTZ "com/example/gatedb/gatedb/pgwire/PgType" "oid" "I" (.int (1184 : Int32))) {k : Int32} (hk : 0 ≤ k.toInt ∧ k.toInt < 15) :
    ∃ ba, f_of (f_oid k) v_BOOL v_INT2 v_INT4 v_INT8 v_TEXT v_VARCHAR v_BPCHAR v_NAME v_FLOAT4 v_FLOAT8 v_NUMERIC v_DATE v_TIME v_TIMESTAMP v_TIMESTAMPTZ = .ref ba ∧ Exa Z h ba "com/example/gatedb/gatedb/pgwire/PgType" ∧ Fld Z h ba "com/example/gatedb/gatedb/pgwire/PgType" "oid" "I" (.int (f_oid k)) := by
  rcases own_or15 k hk with rfl | rfl | rfl | rfl | rfl | rfl | rfl | rfl | rfl | rfl | rfl | rfl | rfl | rfl | rfl
  · rw [show f_oid (0 : Int32) = 16 from by decide]; exact ⟨v_BOOL, by unfold f_of; rw [if_neg (by decide), if_neg (by decide), if_neg (by decide), if_neg (by decide), if_neg (by decide), if_neg (by decide), if_neg (by decide), if_neg (by decide), if_neg (by decide), if_neg (by decide), if_neg (by decide), if_neg (by decide), if_neg (by decide), if_neg (by decide), if_pos rfl], EBOOL, FBOOL⟩
  · rw [show f_oid (1 : Int32) = 21 from by decide]; exact ⟨v_INT2, by unfold f_of; rw [if_neg (by decide), if_neg (by decide), if_neg (by decide), if_neg (by decide), if_neg (by decide), if_neg (by decide), if_neg (by decide), if_neg (by decide), if_neg (by decide), if_neg (by decide), if_neg (by decide), if_neg (by decide), if_neg (by decide), if_pos rfl], EINT2, FINT2⟩
  · rw [show f_oid (2 : Int32) = 23 from by decide]; exact ⟨v_INT4, by unfold f_of; rw [if_neg (by decide), if_neg (by decide), if_neg (by decide), if_neg (by decide), if_neg (by decide), if_neg (by decide), if_neg (by decide), if_neg (by decide), if_neg (by decide), if_neg (by decide), if_neg (by decide), if_neg (by decide), if_pos rfl], EINT4, FINT4⟩
  · rw [show f_oid (3 : Int32) = 20 from by decide]; exact ⟨v_INT8, by unfold f_of; rw [if_neg (by decide), if_neg (by decide), if_neg (by decide), if_neg (by decide), if_neg (by decide), if_neg (by decide), if_neg (by decide), if_neg (by decide), if_neg (by decide), if_neg (by decide), if_neg (by decide), if_pos rfl], EINT8, FINT8⟩
  · rw [show f_oid (4 : Int32) = 25 from by decide]; exact ⟨v_TEXT, by unfold f_of; rw [if_neg (by decide), if_neg (by decide), if_neg (by decide), if_neg (by decide), if_neg (by decide), if_neg (by decide), if_neg (by decide), if_neg (by decide), if_neg (by decide), if_neg (by decide), if_pos rfl], ETEXT, FTEXT⟩
  · rw [show f_oid (5 : Int32) = 1043 from by decide]; exact ⟨v_VARCHAR, by unfold f_of; rw [if_neg (by decide), if_neg (by decide), if_neg (by decide), if_neg (by decide), if_neg (by decide), if_neg (by decide), if_neg (by decide), if_neg (by decide), if_neg (by decide), if_pos rfl], EVARCHAR, FVARCHAR⟩
  · rw [show f_oid (6 : Int32) = 1042 from by decide]; exact ⟨v_BPCHAR, by unfold f_of; rw [if_neg (by decide), if_neg (by decide), if_neg (by decide), if_neg (by decide), if_neg (by decide), if_neg (by decide), if_neg (by decide), if_neg (by decide), if_pos rfl], EBPCHAR, FBPCHAR⟩
  · rw [show f_oid (7 : Int32) = 19 from by decide]; exact ⟨v_NAME, by unfold f_of; rw [if_neg (by decide), if_neg (by decide), if_neg (by decide), if_neg (by decide), if_neg (by decide), if_neg (by decide), if_neg (by decide), if_pos rfl], ENAME, FNAME⟩
  · rw [show f_oid (8 : Int32) = 700 from by decide]; exact ⟨v_FLOAT4, by unfold f_of; rw [if_neg (by decide), if_neg (by decide), if_neg (by decide), if_neg (by decide), if_neg (by decide), if_neg (by decide), if_pos rfl], EFLOAT4, FFLOAT4⟩
  · rw [show f_oid (9 : Int32) = 701 from by decide]; exact ⟨v_FLOAT8, by unfold f_of; rw [if_neg (by decide), if_neg (by decide), if_neg (by decide), if_neg (by decide), if_neg (by decide), if_pos rfl], EFLOAT8, FFLOAT8⟩
  · rw [show f_oid (10 : Int32) = 1700 from by decide]; exact ⟨v_NUMERIC, by unfold f_of; rw [if_neg (by decide), if_neg (by decide), if_neg (by decide), if_neg (by decide), if_pos rfl], ENUMERIC, FNUMERIC⟩
  · rw [show f_oid (11 : Int32) = 1082 from by decide]; exact ⟨v_DATE, by unfold f_of; rw [if_neg (by decide), if_neg (by decide), if_neg (by decide), if_pos rfl], EDATE, FDATE⟩
  · rw [show f_oid (12 : Int32) = 1083 from by decide]; exact ⟨v_TIME, by unfold f_of; rw [if_neg (by decide), if_neg (by decide), if_pos rfl], ETIME, FTIME⟩
  · rw [show f_oid (13 : Int32) = 1114 from by decide]; exact ⟨v_TIMESTAMP, by unfold f_of; rw [if_neg (by decide), if_pos rfl], ETIMESTAMP, FTIMESTAMP⟩
  · rw [show f_oid (14 : Int32) = 1184 from by decide]; exact ⟨v_TIMESTAMPTZ, by unfold f_of; rw [if_pos rfl], ETIMESTAMPTZ, FTIMESTAMPTZ⟩
theorem pd__I_I : parseMethodDescriptor "(I)I" = some ⟨[.int], some .int⟩ := by decide +kernel
theorem pd__I_Lcom_example_gatedb_gatedb_pgwire_PgType_ : parseMethodDescriptor "(I)Lcom/example/gatedb/gatedb/pgwire/PgType;" = some ⟨[.int], some (.object "com/example/gatedb/gatedb/pgwire/PgType")⟩ := by decide +kernel
theorem pd___I : parseMethodDescriptor "()I" = some ⟨[], some .int⟩ := by decide +kernel
theorem ef0 (m : MethodId) (x0 : Int32) (x1 : Int32) (x2 : Int32) : entryFrame m #[(.int x0), (.int x1), (.int x2)] maxLocals = mkF m 0 #[.val (.int x0), .val (.int x1), .val (.int x2), .unset, .unset, .unset, .unset, .unset, .unset, .unset, .unset, .unset, .unset] [] := by first | (simp [entryFrame, mkF, argsToLocals, Value.category, maxLocals]; done) | rfl
def Q0 (Z : State) (p0 : Int32) (p1 : Int32) (p2 : Int32) (kV : ClassId) (v__VALUES : Addr) (v_BOOL : Addr) (v_INT2 : Addr) (v_INT4 : Addr) (v_INT8 : Addr) (v_TEXT : Addr) (v_VARCHAR : Addr) (v_BPCHAR : Addr) (v_NAME : Addr) (v_FLOAT4 : Addr) (v_FLOAT8 : Addr) (v_NUMERIC : Addr) (v_DATE : Addr) (v_TIME : Addr) (v_TIMESTAMP : Addr) (v_TIMESTAMPTZ : Addr) (h0 : Heap) (n0 : Nat) (v : Option Value) (h : Heap) (L : List Loc) : Prop := v = some (.int (1 : Int32)) ∧ Fr n0 L
set_option maxRecDepth 65536 in
set_option maxHeartbeats 40000000 in
theorem rm0 (l : Launch) (Z : State) (a0 : Array Value) (hw : ∀ d ∈ tables_1, d.before a0 Z = true) (ws : List Jvm.Cond) (p0 : Int32) (p1 : Int32) (p2 : Int32) (kV : ClassId) (v__VALUES : Addr) (v_BOOL : Addr) (v_INT2 : Addr) (v_INT4 : Addr) (v_INT8 : Addr) (v_TEXT : Addr) (v_VARCHAR : Addr) (v_BPCHAR : Addr) (v_NAME : Addr) (v_FLOAT4 : Addr) (v_FLOAT8 : Addr) (v_NUMERIC : Addr) (v_DATE : Addr) (v_TIME : Addr) (v_TIMESTAMP : Addr) (v_TIMESTAMPTZ : Addr) (h0 : Heap) (n0 : Nat) (Z0 : n0 ≤ h0.size) (Sv__VALUES : Sta Z h0 "com/example/gatedb/gatedb/pgwire/PgType" "$VALUES" "[Lcom/example/gatedb/gatedb/pgwire/PgType;" (.ref v__VALUES)) (Ev__VALUES : Exa Z h0 v__VALUES "[Lcom/example/gatedb/gatedb/pgwire/PgType;") (Sv_BOOL : Sta Z h0 "com/example/gatedb/gatedb/pgwire/PgType" "BOOL" "Lcom/example/gatedb/gatedb/pgwire/PgType;" (.ref v_BOOL)) (Ev_BOOL : Exa Z h0 v_BOOL "com/example/gatedb/gatedb/pgwire/PgType") (Sv_INT2 : Sta Z h0 "com/example/gatedb/gatedb/pgwire/PgType" "INT2" "Lcom/example/gatedb/gatedb/pgwire/PgType;" (.ref v_INT2)) (Ev_INT2 : Exa Z h0 v_INT2 "com/example/gatedb/gatedb/pgwire/PgType") (Sv_INT4 : Sta Z h0 "com/example/gatedb/gatedb/pgwire/PgType" "INT4" "Lcom/example/gatedb/gatedb/pgwire/PgType;" (.ref v_INT4)) (Ev_INT4 : Exa Z h0 v_INT4 "com/example/gatedb/gatedb/pgwire/PgType") (Sv_INT8 : Sta Z h0 "com/example/gatedb/gatedb/pgwire/PgType" "INT8" "Lcom/example/gatedb/gatedb/pgwire/PgType;" (.ref v_INT8)) (Ev_INT8 : Exa Z h0 v_INT8 "com/example/gatedb/gatedb/pgwire/PgType") (Sv_TEXT : Sta Z h0 "com/example/gatedb/gatedb/pgwire/PgType" "TEXT" "Lcom/example/gatedb/gatedb/pgwire/PgType;" (.ref v_TEXT)) (Ev_TEXT : Exa Z h0 v_TEXT "com/example/gatedb/gatedb/pgwire/PgType") (Sv_VARCHAR : Sta Z h0 "com/example/gatedb/gatedb/pgwire/PgType" "VARCHAR" "Lcom/example/gatedb/gatedb/pgwire/PgType;" (.ref v_VARCHAR)) (Ev_VARCHAR : Exa Z h0 v_VARCHAR "com/example/gatedb/gatedb/pgwire/PgType") (Sv_BPCHAR : Sta Z h0 "com/example/gatedb/gatedb/pgwire/PgType" "BPCHAR" "Lcom/example/gatedb/gatedb/pgwire/PgType;" (.ref v_BPCHAR)) (Ev_BPCHAR : Exa Z h0 v_BPCHAR "com/example/gatedb/gatedb/pgwire/PgType") (Sv_NAME : Sta Z h0 "com/example/gatedb/gatedb/pgwire/PgType" "NAME" "Lcom/example/gatedb/gatedb/pgwire/PgType;" (.ref v_NAME)) (Ev_NAME : Exa Z h0 v_NAME "com/example/gatedb/gatedb/pgwire/PgType") (Sv_FLOAT4 : Sta Z h0 "com/example/gatedb/gatedb/pgwire/PgType" "FLOAT4" "Lcom/example/gatedb/gatedb/pgwire/PgType;" (.ref v_FLOAT4)) (Ev_FLOAT4 : Exa Z h0 v_FLOAT4 "com/example/gatedb/gatedb/pgwire/PgType") (Sv_FLOAT8 : Sta Z h0 "com/example/gatedb/gatedb/pgwire/PgType" "FLOAT8" "Lcom/example/gatedb/gatedb/pgwire/PgType;" (.ref v_FLOAT8)) (Ev_FLOAT8 : Exa Z h0 v_FLOAT8 "com/example/gatedb/gatedb/pgwire/PgType") (Sv_NUMERIC : Sta Z h0 "com/example/gatedb/gatedb/pgwire/PgType" "NUMERIC" "Lcom/example/gatedb/gatedb/pgwire/PgType;" (.ref v_NUMERIC)) (Ev_NUMERIC : Exa Z h0 v_NUMERIC "com/example/gatedb/gatedb/pgwire/PgType") (Sv_DATE : Sta Z h0 "com/example/gatedb/gatedb/pgwire/PgType" "DATE" "Lcom/example/gatedb/gatedb/pgwire/PgType;" (.ref v_DATE)) (Ev_DATE : Exa Z h0 v_DATE "com/example/gatedb/gatedb/pgwire/PgType") (Sv_TIME : Sta Z h0 "com/example/gatedb/gatedb/pgwire/PgType" "TIME" "Lcom/example/gatedb/gatedb/pgwire/PgType;" (.ref v_TIME)) (Ev_TIME : Exa Z h0 v_TIME "com/example/gatedb/gatedb/pgwire/PgType") (Sv_TIMESTAMP : Sta Z h0 "com/example/gatedb/gatedb/pgwire/PgType" "TIMESTAMP" "Lcom/example/gatedb/gatedb/pgwire/PgType;" (.ref v_TIMESTAMP)) (Ev_TIMESTAMP : Exa Z h0 v_TIMESTAMP "com/example/gatedb/gatedb/pgwire/PgType") (Sv_TIMESTAMPTZ : Sta Z h0 "com/example/gatedb/gatedb/pgwire/PgType" "TIMESTAMPTZ" "Lcom/example/gatedb/gatedb/pgwire/PgType;" (.ref v_TIMESTAMPTZ)) (Ev_TIMESTAMPTZ : Exa Z h0 v_TIMESTAMPTZ "com/example/gatedb/gatedb/pgwire/PgType") (Fv_BOOL_oid : Fld Z h0 v_BOOL "com/example/gatedb/gatedb/pgwire/PgType" "oid" "I" (.int (16 : Int32))) (Fv_INT2_oid : Fld Z h0 v_INT2 "com/example/gatedb/gatedb/pgwire/PgType" "oid" "I" (.int (21 : Int32))) (Fv_INT4_oid : Fld Z h0 v_INT4 "com/example/gatedb/gatedb/pgwire/PgType" "oid" "I" (.int (23 : Int32))) (Fv_INT8_oid : Fld Z h0 v_INT8 "com/example/gatedb/gatedb/pgwire/PgType" "oid" "I" (.int (20 : Int32))) (Fv_TEXT_oid : Fld Z h0 v_TEXT "com/example/gatedb/gatedb/pgwire/PgType" "oid" "I" (.int (25 : Int32))) (Fv_VARCHAR_oid : Fld Z h0 v_VARCHAR "com/example/gatedb/gatedb/pgwire/PgType" "oid" "I" (.int (1043 : Int32))) (Fv_BPCHAR_oid : Fld Z h0 v_BPCHAR "com/example/gatedb/gatedb/pgwire/PgType" "oid" "I" (.int (1042 : Int32))) (Fv_NAME_oid : Fld Z h0 v_NAME "com/example/gatedb/gatedb/pgwire/PgType" "oid" "I" (.int (19 : Int32))) (Fv_FLOAT4_oid : Fld Z h0 v_FLOAT4 "com/example/gatedb/gatedb/pgwire/PgType" "oid" "I" (.int (700 : Int32))) (Fv_FLOAT8_oid : Fld Z h0 v_FLOAT8 "com/example/gatedb/gatedb/pgwire/PgType" "oid" "I" (.int (701 : Int32))) (Fv_NUMERIC_oid : Fld Z h0 v_NUMERIC "com/example/gatedb/gatedb/pgwire/PgType" "oid" "I" (.int (1700 : Int32))) (Fv_DATE_oid : Fld Z h0 v_DATE "com/example/gatedb/gatedb/pgwire/PgType" "oid" "I" (.int (1082 : Int32))) (Fv_TIME_oid : Fld Z h0 v_TIME "com/example/gatedb/gatedb/pgwire/PgType" "oid" "I" (.int (1083 : Int32))) (Fv_TIMESTAMP_oid : Fld Z h0 v_TIMESTAMP "com/example/gatedb/gatedb/pgwire/PgType" "oid" "I" (.int (1114 : Int32))) (Fv_TIMESTAMPTZ_oid : Fld Z h0 v_TIMESTAMPTZ "com/example/gatedb/gatedb/pgwire/PgType" "oid" "I" (.int (1184 : Int32))) (V0 : Arv Z h0 v__VALUES kV (.object "com/example/gatedb/gatedb/pgwire/PgType") (15 : Int32) [(.ref v_BOOL), (.ref v_INT2), (.ref v_INT4), (.ref v_INT8), (.ref v_TEXT), (.ref v_VARCHAR), (.ref v_BPCHAR), (.ref v_NAME), (.ref v_FLOAT4), (.ref v_FLOAT8), (.ref v_NUMERIC), (.ref v_DATE), (.ref v_TIME), (.ref v_TIMESTAMP), (.ref v_TIMESTAMPTZ)] .null) :
    MetFree l x (head1 (Jvm.Cond.code x code maxLocals ret :: ws) room_1) (fun a U => a = #[(.int p0), (.int p1), (.int p2)] ∧ Z.Warmed39 U.vm ∧ U.heap = h0) (fun _ _ _ _ _ => True) (fun _ U o U' => ∃ v L, o = .returned v ∧ Q0 Z p0 p1 p2 kV v__VALUES v_BOOL v_INT2 v_INT4 v_INT8 v_TEXT v_VARCHAR v_BPCHAR v_NAME v_FLOAT4 v_FLOAT8 v_NUMERIC v_DATE v_TIME v_TIMESTAMP v_TIMESTAMPTZ h0 n0 v U'.heap L ∧ FrameEnd U o U' L room_1.cells room_1.slots) := by
  refine MetFree.of_bodySF (plainFor_of_name pn_PgTypeOfOidPinLaw) hisR ?_
  intro p e s m args below meth c s₁ Bd hml0 hP hK
  obtain ⟨rfl, hZ, hh⟩ := hP
  have hx := Bd.exec
  have hby := Bd.bytes
  have hml : c.maxLocals = 13 := hml0
  have hown : s.vm.findClass "com/example/gatedb/gatedb/pgwire/PgTypeOfOidPinLaw" = some m.cls := findClass_of_methodNamed Bd.named
  have hnm := (name_of_methodNamed Bd.named Bd.method).1
  have X0 : Stand p l e room_1 s m #[(.int p0), (.int p1), (.int p2)] below meth c s₁ [] 0 0 := Stand.of_body Bd
  have e0 : s₁.heap = h0 := by rw [← hh, Bd.state]; rfl
  have N0 := Fr.nil n0
  have pre0 : ∀ t, Steps p.tables e below (s₁.setTop (mkF m 0 #[.val (.int p0), .val (.int p1), .val (.int p2), .unset, .unset, .unset, .unset, .unset, .unset, .unset, .unset, .unset, .unset] [])) t → Steps p.tables e below (s₁.setTop (entryFrame m #[(.int p0), (.int p1), (.int p2)] maxLocals)) t := fun t k => castTop (ef0 m p0 p1 p2) k
  have S172 : ∀ t, Steps p.tables e below (s₁.setTop (mkF m 8 #[.val (.int p0), .val (.int p1), .val (.int p2), .val (.int ((p1 &&& (2147483647 : Int32)) % (15 : Int32))), .unset, .unset, .unset, .unset, .unset, .unset, .unset, .unset, .unset] [])) t → Steps p.tables e below (s₁.setTop (entryFrame m #[(.int p0), (.int p1), (.int p2)] maxLocals)) t := by
    intro t kt
    refine pre0 _ ?_
    show Steps p.tables e below (s₁.setTop (mkF m 0 #[.val (.int p0), .val (.int p1), .val (.int p2), .unset, .unset, .unset, .unset, .unset, .unset, .unset, .unset, .unset, .unset] [])) _
    refine XS.iloadN X0.here hx rfl (hb hby at_0) rfl ?_
    show Steps p.tables e below (s₁.setTop (mkF m 1 #[.val (.int p0), .val (.int p1), .val (.int p2), .unset, .unset, .unset, .unset, .unset, .unset, .unset, .unset, .unset, .unset] [(.int p1)])) _
    refine X0.ldcInt hx hown (mvT hZ (hw _ (List.mem_of_getElem? (i := 0) rfl))) (g := (mkF m 1 #[.val (.int p0), .val (.int p1), .val (.int p2), .unset, .unset, .unset, .unset, .unset, .unset, .unset, .unset, .unset, .unset] [(.int p1)])) rfl (hb hby at_1) _ ?_
    show Steps p.tables e below (s₁.setTop (mkF m 3 #[.val (.int p0), .val (.int p1), .val (.int p2), .unset, .unset, .unset, .unset, .unset, .unset, .unset, .unset, .unset, .unset] [(.int (2147483647 : Int32)), (.int p1)])) _
    refine XS.iand X0.here hx rfl (hb hby at_3) rfl ?_
    show Steps p.tables e below (s₁.setTop (mkF m 4 #[.val (.int p0), .val (.int p1), .val (.int p2), .unset, .unset, .unset, .unset, .unset, .unset, .unset, .unset, .unset, .unset] [(.int (p1 &&& (2147483647 : Int32)))])) _
    refine XS.bipush X0.here hx rfl (hb hby at_4) ?_
    show Steps p.tables e below (s₁.setTop (mkF m 6 #[.val (.int p0), .val (.int p1), .val (.int p2), .unset, .unset, .unset, .unset, .unset, .unset, .unset, .unset, .unset, .unset] [(.int (15 : Int32)), (.int (p1 &&& (2147483647 : Int32)))])) _
    refine iremM X0 hx rfl (hb hby at_6) rfl (by decide) ?_
    show Steps p.tables e below (s₁.setTop (mkF m 7 #[.val (.int p0), .val (.int p1), .val (.int p2), .unset, .unset, .unset, .unset, .unset, .unset, .unset, .unset, .unset, .unset] [(.int ((p1 &&& (2147483647 : Int32)) % (15 : Int32)))])) _
    refine XS.istoreN X0.here hx rfl (hb hby at_7) rfl (l' := #[.val (.int p0), .val (.int p1), .val (.int p2), .val (.int ((p1 &&& (2147483647 : Int32)) % (15 : Int32))), .unset, .unset, .unset, .unset, .unset, .unset, .unset, .unset, .unset]) rfl ?_
    exact kt
  obtain ⟨kk, hd_kk⟩ : ∃ z, z = ((p1 &&& (2147483647 : Int32)) % (15 : Int32)) := ⟨_, rfl⟩
  rw [← hd_kk] at S172
  obtain ⟨_, _, ⟨T173, L173, k173, n173⟩, -, X173, ⟨Lc173, hQ173, l173, y173, z173⟩, st173⟩ := Jvm.LawKit.callS X0 hx (y := (⟨"com/example/gatedb/gatedb/pgwire/PgTypeOfOidPinLaw", "oidAt", "(I)I"⟩ : MethodName)) hown (mvT hZ (hw _ (List.mem_of_getElem? (i := 1) rfl))) (mvT hZ (hw _ (List.mem_of_getElem? (i := 2) rfl))) (mvT hZ (hw _ (List.mem_of_getElem? (i := 3) rfl))) (mvT hZ (hw _ (List.mem_of_getElem? (i := 4) rfl))) (by decide) (backOf (W := 0) (rm1 l Z a0 hw [] kk h0 n0 Z0 ) hZ (hw _ (List.mem_of_getElem? (i := 4) rfl)) (hw _ (List.mem_of_getElem? (i := 3) rfl)) (by decide) (by decide)) (g := (mkF m 9 #[.val (.int p0), .val (.int p1), .val (.int p2), .val (.int kk), .unset, .unset, .unset, .unset, .unset, .unset, .unset, .unset, .unset] [(.int kk)])) rfl (by rw [hml]; rfl) (argsL := [(.int kk)]) (rest := []) (lenOf pd__I_I rfl) rfl (by show 2 * 0 + _ ≤ _; exact Nat.le_of_eq rfl) (hb hby at_9) (fun _ _ => ⟨rfl, e0, (by decide : 0 + 0 ≤ _), (by decide : 0 + 0 ≤ _)⟩)
  dsimp only [Pt.U, Pt.locs, Pt.cells, Pt.slots] at X173 l173 y173 z173 st173 hQ173
  subst l173 y173 z173
  obtain ⟨rfl, Nq173, e173⟩ := hQ173
  have N173 := Fr.app N0 Nq173
  obtain ⟨_, _, ⟨T174, L174, k174, n174⟩, -, X174, ⟨Lc174, hQ174, l174, y174, z174⟩, st174⟩ := Jvm.LawKit.callS X173 hx (y := (⟨"com/example/gatedb/gatedb/pgwire/PgType", "ofOid", "(I)Lcom/example/gatedb/gatedb/pgwire/PgType;"⟩ : MethodName)) hown (mvT hZ (hw _ (List.mem_of_getElem? (i := 5) rfl))) (mvT hZ (hw _ (List.mem_of_getElem? (i := 6) rfl))) (mvT hZ (hw _ (List.mem_of_getElem? (i := 7) rfl))) (mvT hZ (hw _ (List.mem_of_getElem? (i := 8) rfl))) (by decide) (backOf (W := 0) (rm2 l Z a0 hw [] (f_oid kk) kV v__VALUES v_BOOL v_INT2 v_INT4 v_INT8 v_TEXT v_VARCHAR v_BPCHAR v_NAME v_FLOAT4 v_FLOAT8 v_NUMERIC v_DATE v_TIME v_TIMESTAMP v_TIMESTAMPTZ h0 n0 Z0 Sv__VALUES Ev__VALUES Sv_BOOL Ev_BOOL Sv_INT2 Ev_INT2 Sv_INT4 Ev_INT4 Sv_INT8 Ev_INT8 Sv_TEXT Ev_TEXT Sv_VARCHAR Ev_VARCHAR Sv_BPCHAR Ev_BPCHAR Sv_NAME Ev_NAME Sv_FLOAT4 Ev_FLOAT4 Sv_FLOAT8 Ev_FLOAT8 Sv_NUMERIC Ev_NUMERIC Sv_DATE Ev_DATE Sv_TIME Ev_TIME Sv_TIMESTAMP Ev_TIMESTAMP Sv_TIMESTAMPTZ Ev_TIMESTAMPTZ Fv_BOOL_oid Fv_INT2_oid Fv_INT4_oid Fv_INT8_oid Fv_TEXT_oid Fv_VARCHAR_oid Fv_BPCHAR_oid Fv_NAME_oid Fv_FLOAT4_oid Fv_FLOAT8_oid Fv_NUMERIC_oid Fv_DATE_oid Fv_TIME_oid Fv_TIMESTAMP_oid Fv_TIMESTAMPTZ_oid V0) hZ (hw _ (List.mem_of_getElem? (i := 8) rfl)) (hw _ (List.mem_of_getElem? (i := 7) rfl)) (by decide) (by decide)) (g := (mkF m 24 #[.val (.int p0), .val (.int p1), .val (.int p2), .val (.int kk), .val (.int (f_oid kk)), .val (.int ((f_oid kk) + (p2 % (3 : Int32)))), .unset, .unset, .unset, .unset, .unset, .unset, .unset] [(.int (f_oid kk))])) rfl (by rw [hml]; rfl) (argsL := [(.int (f_oid kk))]) (rest := []) (lenOf pd__I_Lcom_example_gatedb_gatedb_pgwire_PgType_ rfl) rfl (by show 2 * 0 + _ ≤ _; exact Nat.le_of_eq rfl) (hb hby at_24) (fun _ _ => ⟨rfl, e173, (by decide : 0 + 1 ≤ _), (by decide : 0 + 15 ≤ _)⟩)
  dsimp only [Pt.U, Pt.locs, Pt.cells, Pt.slots] at X174 l174 y174 z174 st174 hQ174
  subst l174 y174 z174
  obtain ⟨rfl, Nq174, Kq174⟩ := hQ174
  have K175 : Keep h0 T174.heap [] := Kq174
  have N174 := Fr.app N173 Nq174
  have S176 : ∀ t, Steps p.tables e below (T174.setTop (mkF m 29 #[.val (.int p0), .val (.int p1), .val (.int p2), .val (.int kk), .val (.int (f_oid kk)), .val (.int ((f_oid kk) + (p2 % (3 : Int32)))), .val (f_of (f_oid kk) v_BOOL v_INT2 v_INT4 v_INT8 v_TEXT v_VARCHAR v_BPCHAR v_NAME v_FLOAT4 v_FLOAT8 v_NUMERIC v_DATE v_TIME v_TIMESTAMP v_TIMESTAMPTZ), .unset, .unset, .unset, .unset, .unset, .unset] [])) t → Steps p.tables e below (s₁.setTop (entryFrame m #[(.int p0), (.int p1), (.int p2)] maxLocals)) t := by
    intro t kt
    refine S172 _ ?_
    show Steps p.tables e below (s₁.setTop (mkF m 8 #[.val (.int p0), .val (.int p1), .val (.int p2), .val (.int kk), .unset, .unset, .unset, .unset, .unset, .unset, .unset, .unset, .unset] [])) _
    refine XS.iloadN X0.here hx rfl (hb hby at_8) rfl ?_
    show Steps p.tables e below (s₁.setTop (mkF m 9 #[.val (.int p0), .val (.int p1), .val (.int p2), .val (.int kk), .unset, .unset, .unset, .unset, .unset, .unset, .unset, .unset, .unset] [(.int kk)])) _
    refine st173 _ ?_
    show Steps p.tables e below (T173.setTop (mkF m 12 #[.val (.int p0), .val (.int p1), .val (.int p2), .val (.int kk), .unset, .unset, .unset, .unset, .unset, .unset, .unset, .unset, .unset] [(.int (f_oid kk))])) _
    refine XS.istore X173.here hx rfl (hb hby at_12) rfl (l' := #[.val (.int p0), .val (.int p1), .val (.int p2), .val (.int kk), .val (.int (f_oid kk)), .unset, .unset, .unset, .unset, .unset, .unset, .unset, .unset]) rfl ?_
    show Steps p.tables e below (T173.setTop (mkF m 14 #[.val (.int p0), .val (.int p1), .val (.int p2), .val (.int kk), .val (.int (f_oid kk)), .unset, .unset, .unset, .unset, .unset, .unset, .unset, .unset] [])) _
    refine XS.iload X173.here hx rfl (hb hby at_14) rfl ?_
    show Steps p.tables e below (T173.setTop (mkF m 16 #[.val (.int p0), .val (.int p1), .val (.int p2), .val (.int kk), .val (.int (f_oid kk)), .unset, .unset, .unset, .unset, .unset, .unset, .unset, .unset] [(.int (f_oid kk))])) _
    refine XS.iloadN X173.here hx rfl (hb hby at_16) rfl ?_
    show Steps p.tables e below (T173.setTop (mkF m 17 #[.val (.int p0), .val (.int p1), .val (.int p2), .val (.int kk), .val (.int (f_oid kk)), .unset, .unset, .unset, .unset, .unset, .unset, .unset, .unset] [(.int p2), (.int (f_oid kk))])) _
    refine XS.iconst X173.here hx rfl (hb hby at_17) ?_
    show Steps p.tables e below (T173.setTop (mkF m 18 #[.val (.int p0), .val (.int p1), .val (.int p2), .val (.int kk), .val (.int (f_oid kk)), .unset, .unset, .unset, .unset, .unset, .unset, .unset, .unset] [(.int (3 : Int32)), (.int p2), (.int (f_oid kk))])) _
    refine iremM X173 hx rfl (hb hby at_18) rfl (by decide) ?_
    show Steps p.tables e below (T173.setTop (mkF m 19 #[.val (.int p0), .val (.int p1), .val (.int p2), .val (.int kk), .val (.int (f_oid kk)), .unset, .unset, .unset, .unset, .unset, .unset, .unset, .unset] [(.int (p2 % (3 : Int32))), (.int (f_oid kk))])) _
    refine XS.iadd X173.here hx rfl (hb hby at_19) rfl ?_
    show Steps p.tables e below (T173.setTop (mkF m 20 #[.val (.int p0), .val (.int p1), .val (.int p2), .val (.int kk), .val (.int (f_oid kk)), .unset, .unset, .unset, .unset, .unset, .unset, .unset, .unset] [(.int ((f_oid kk) + (p2 % (3 : Int32))))])) _
    refine XS.istore X173.here hx rfl (hb hby at_20) rfl (l' := #[.val (.int p0), .val (.int p1), .val (.int p2), .val (.int kk), .val (.int (f_oid kk)), .val (.int ((f_oid kk) + (p2 % (3 : Int32)))), .unset, .unset, .unset, .unset, .unset, .unset, .unset]) rfl ?_
    show Steps p.tables e below (T173.setTop (mkF m 22 #[.val (.int p0), .val (.int p1), .val (.int p2), .val (.int kk), .val (.int (f_oid kk)), .val (.int ((f_oid kk) + (p2 % (3 : Int32)))), .unset, .unset, .unset, .unset, .unset, .unset, .unset] [])) _
    refine XS.iload X173.here hx rfl (hb hby at_22) rfl ?_
    show Steps p.tables e below (T173.setTop (mkF m 24 #[.val (.int p0), .val (.int p1), .val (.int p2), .val (.int kk), .val (.int (f_oid kk)), .val (.int ((f_oid kk) + (p2 % (3 : Int32)))), .unset, .unset, .unset, .unset, .unset, .unset, .unset] [(.int (f_oid kk))])) _
    refine st174 _ ?_
    show Steps p.tables e below (T174.setTop (mkF m 27 #[.val (.int p0), .val (.int p1), .val (.int p2), .val (.int kk), .val (.int (f_oid kk)), .val (.int ((f_oid kk) + (p2 % (3 : Int32)))), .unset, .unset, .unset, .unset, .unset, .unset, .unset] [(f_of (f_oid kk) v_BOOL v_INT2 v_INT4 v_INT8 v_TEXT v_VARCHAR v_BPCHAR v_NAME v_FLOAT4 v_FLOAT8 v_NUMERIC v_DATE v_TIME v_TIMESTAMP v_TIMESTAMPTZ)])) _
    refine XS.astore X174.here hx rfl (hb hby at_27) rfl (own_rf_f_of (f_oid kk) v_BOOL v_INT2 v_INT4 v_INT8 v_TEXT v_VARCHAR v_BPCHAR v_NAME v_FLOAT4 v_FLOAT8 v_NUMERIC v_DATE v_TIME v_TIMESTAMP v_TIMESTAMPTZ) (l' := #[.val (.int p0), .val (.int p1), .val (.int p2), .val (.int kk), .val (.int (f_oid kk)), .val (.int ((f_oid kk) + (p2 % (3 : Int32)))), .val (f_of (f_oid kk) v_BOOL v_INT2 v_INT4 v_INT8 v_TEXT v_VARCHAR v_BPCHAR v_NAME v_FLOAT4 v_FLOAT8 v_NUMERIC v_DATE v_TIME v_TIMESTAMP v_TIMESTAMPTZ), .unset, .unset, .unset, .unset, .unset, .unset]) (XS.store1 rfl (Or.inl rfl) (XT.cat1 (own_rf_f_of (f_oid kk) v_BOOL v_INT2 v_INT4 v_INT8 v_TEXT v_VARCHAR v_BPCHAR v_NAME v_FLOAT4 v_FLOAT8 v_NUMERIC v_DATE v_TIME v_TIMESTAMP v_TIMESTAMPTZ))) ?_
    exact kt
  have c177 : Exa Z T174.heap v_BOOL "com/example/gatedb/gatedb/pgwire/PgType" := (Ev_BOOL.keep Kq174)
  have c178 : Fld Z T174.heap v_BOOL "com/example/gatedb/gatedb/pgwire/PgType" "oid" "I" (.int (16 : Int32)) := (Fv_BOOL_oid.keep Kq174 List.not_mem_nil)
  have c179 : Exa Z T174.heap v_INT2 "com/example/gatedb/gatedb/pgwire/PgType" := (Ev_INT2.keep Kq174)
  have c180 : Fld Z T174.heap v_INT2 "com/example/gatedb/gatedb/pgwire/PgType" "oid" "I" (.int (21 : Int32)) := (Fv_INT2_oid.keep Kq174 List.not_mem_nil)
  have c181 : Exa Z T174.heap v_INT4 "com/example/gatedb/gatedb/pgwire/PgType" := (Ev_INT4.keep Kq174)
  have c182 : Fld Z T174.heap v_INT4 "com/example/gatedb/gatedb/pgwire/PgType" "oid" "I" (.int (23 : Int32)) := (Fv_INT4_oid.keep Kq174 List.not_mem_nil)
  have c183 : Exa Z T174.heap v_INT8 "com/example/gatedb/gatedb/pgwire/PgType" := (Ev_INT8.keep Kq174)
  have c184 : Fld Z T174.heap v_INT8 "com/example/gatedb/gatedb/pgwire/PgType" "oid" "I" (.int (20 : Int32)) := (Fv_INT8_oid.keep Kq174 List.not_mem_nil)
  have c185 : Exa Z T174.heap v_TEXT "com/example/gatedb/gatedb/pgwire/PgType" := (Ev_TEXT.keep Kq174)
  have c186 : Fld Z T174.heap v_TEXT "com/example/gatedb/gatedb/pgwire/PgType" "oid" "I" (.int (25 : Int32)) := (Fv_TEXT_oid.keep Kq174 List.not_mem_nil)
  have c187 : Exa Z T174.heap v_VARCHAR "com/example/gatedb/gatedb/pgwire/PgType" := (Ev_VARCHAR.keep Kq174)
  have c188 : Fld Z T174.heap v_VARCHAR "com/example/gatedb/gatedb/pgwire/PgType" "oid" "I" (.int (1043 : Int32)) := (Fv_VARCHAR_oid.keep Kq174 List.not_mem_nil)
  have c189 : Exa Z T174.heap v_BPCHAR "com/example/gatedb/gatedb/pgwire/PgType" := (Ev_BPCHAR.keep Kq174)
  have c190 : Fld Z T174.heap v_BPCHAR "com/example/gatedb/gatedb/pgwire/PgType" "oid" "I" (.int (1042 : Int32)) := (Fv_BPCHAR_oid.keep Kq174 List.not_mem_nil)
  have c191 : Exa Z T174.heap v_NAME "com/example/gatedb/gatedb/pgwire/PgType" := (Ev_NAME.keep Kq174)
  have c192 : Fld Z T174.heap v_NAME "com/example/gatedb/gatedb/pgwire/PgType" "oid" "I" (.int (19 : Int32)) := (Fv_NAME_oid.keep Kq174 List.not_mem_nil)
  have c193 : Exa Z T174.heap v_FLOAT4 "com/example/gatedb/gatedb/pgwire/PgType" := (Ev_FLOAT4.keep Kq174)
  have c194 : Fld Z T174.heap v_FLOAT4 "com/example/gatedb/gatedb/pgwire/PgType" "oid" "I" (.int (700 : Int32)) := (Fv_FLOAT4_oid.keep Kq174 List.not_mem_nil)
  have c195 : Exa Z T174.heap v_FLOAT8 "com/example/gatedb/gatedb/pgwire/PgType" := (Ev_FLOAT8.keep Kq174)
  have c196 : Fld Z T174.heap v_FLOAT8 "com/example/gatedb/gatedb/pgwire/PgType" "oid" "I" (.int (701 : Int32)) := (Fv_FLOAT8_oid.keep Kq174 List.not_mem_nil)
  have c197 : Exa Z T174.heap v_NUMERIC "com/example/gatedb/gatedb/pgwire/PgType" := (Ev_NUMERIC.keep Kq174)
  have c198 : Fld Z T174.heap v_NUMERIC "com/example/gatedb/gatedb/pgwire/PgType" "oid" "I" (.int (1700 : Int32)) := (Fv_NUMERIC_oid.keep Kq174 List.not_mem_nil)
  have c199 : Exa Z T174.heap v_DATE "com/example/gatedb/gatedb/pgwire/PgType" := (Ev_DATE.keep Kq174)
  have c200 : Fld Z T174.heap v_DATE "com/example/gatedb/gatedb/pgwire/PgType" "oid" "I" (.int (1082 : Int32)) := (Fv_DATE_oid.keep Kq174 List.not_mem_nil)
  have c201 : Exa Z T174.heap v_TIME "com/example/gatedb/gatedb/pgwire/PgType" := (Ev_TIME.keep Kq174)
  have c202 : Fld Z T174.heap v_TIME "com/example/gatedb/gatedb/pgwire/PgType" "oid" "I" (.int (1083 : Int32)) := (Fv_TIME_oid.keep Kq174 List.not_mem_nil)
  have c203 : Exa Z T174.heap v_TIMESTAMP "com/example/gatedb/gatedb/pgwire/PgType" := (Ev_TIMESTAMP.keep Kq174)
  have c204 : Fld Z T174.heap v_TIMESTAMP "com/example/gatedb/gatedb/pgwire/PgType" "oid" "I" (.int (1114 : Int32)) := (Fv_TIMESTAMP_oid.keep Kq174 List.not_mem_nil)
  have c205 : Exa Z T174.heap v_TIMESTAMPTZ "com/example/gatedb/gatedb/pgwire/PgType" := (Ev_TIMESTAMPTZ.keep Kq174)
  have c206 : Fld Z T174.heap v_TIMESTAMPTZ "com/example/gatedb/gatedb/pgwire/PgType" "oid" "I" (.int (1184 : Int32)) := (Fv_TIMESTAMPTZ_oid.keep Kq174 List.not_mem_nil)
  obtain ⟨ba, hba, Eba, Fba⟩ := own_known c177 c178 c179 c180 c181 c182 c183 c184 c185 c186 c187 c188 c189 c190 c191 c192 c193 c194 c195 c196 c197 c198 c199 c200 c201 c202 c203 c204 c205 c206 (k := kk) (by rw [hd_kk]; exact own_mod15 p1)
  rw [hba] at S176
  have c208 : Sta Z T174.heap "com/example/gatedb/gatedb/pgwire/PgType" "$VALUES" "[Lcom/example/gatedb/gatedb/pgwire/PgType;" (.ref v__VALUES) := (own_sta_keep Sv__VALUES Kq174)
  have c209 : Exa Z T174.heap v__VALUES "[Lcom/example/gatedb/gatedb/pgwire/PgType;" := (Ev__VALUES.keep Kq174)
  have c210 : Sta Z T174.heap "com/example/gatedb/gatedb/pgwire/PgType" "BOOL" "Lcom/example/gatedb/gatedb/pgwire/PgType;" (.ref v_BOOL) := (own_sta_keep Sv_BOOL Kq174)
  have c211 : Sta Z T174.heap "com/example/gatedb/gatedb/pgwire/PgType" "INT2" "Lcom/example/gatedb/gatedb/pgwire/PgType;" (.ref v_INT2) := (own_sta_keep Sv_INT2 Kq174)
  have c212 : Sta Z T174.heap "com/example/gatedb/gatedb/pgwire/PgType" "INT4" "Lcom/example/gatedb/gatedb/pgwire/PgType;" (.ref v_INT4) := (own_sta_keep Sv_INT4 Kq174)
  have c213 : Sta Z T174.heap "com/example/gatedb/gatedb/pgwire/PgType" "INT8" "Lcom/example/gatedb/gatedb/pgwire/PgType;" (.ref v_INT8) := (own_sta_keep Sv_INT8 Kq174)
  have c214 : Sta Z T174.heap "com/example/gatedb/gatedb/pgwire/PgType" "TEXT" "Lcom/example/gatedb/gatedb/pgwire/PgType;" (.ref v_TEXT) := (own_sta_keep Sv_TEXT Kq174)
  have c215 : Sta Z T174.heap "com/example/gatedb/gatedb/pgwire/PgType" "VARCHAR" "Lcom/example/gatedb/gatedb/pgwire/PgType;" (.ref v_VARCHAR) := (own_sta_keep Sv_VARCHAR Kq174)
  have c216 : Sta Z T174.heap "com/example/gatedb/gatedb/pgwire/PgType" "BPCHAR" "Lcom/example/gatedb/gatedb/pgwire/PgType;" (.ref v_BPCHAR) := (own_sta_keep Sv_BPCHAR Kq174)
  have c217 : Sta Z T174.heap "com/example/gatedb/gatedb/pgwire/PgType" "NAME" "Lcom/example/gatedb/gatedb/pgwire/PgType;" (.ref v_NAME) := (own_sta_keep Sv_NAME Kq174)
  have c218 : Sta Z T174.heap "com/example/gatedb/gatedb/pgwire/PgType" "FLOAT4" "Lcom/example/gatedb/gatedb/pgwire/PgType;" (.ref v_FLOAT4) := (own_sta_keep Sv_FLOAT4 Kq174)
  have c219 : Sta Z T174.heap "com/example/gatedb/gatedb/pgwire/PgType" "FLOAT8" "Lcom/example/gatedb/gatedb/pgwire/PgType;" (.ref v_FLOAT8) := (own_sta_keep Sv_FLOAT8 Kq174)
  have c220 : Sta Z T174.heap "com/example/gatedb/gatedb/pgwire/PgType" "NUMERIC" "Lcom/example/gatedb/gatedb/pgwire/PgType;" (.ref v_NUMERIC) := (own_sta_keep Sv_NUMERIC Kq174)
  have c221 : Sta Z T174.heap "com/example/gatedb/gatedb/pgwire/PgType" "DATE" "Lcom/example/gatedb/gatedb/pgwire/PgType;" (.ref v_DATE) := (own_sta_keep Sv_DATE Kq174)
  have c222 : Sta Z T174.heap "com/example/gatedb/gatedb/pgwire/PgType" "TIME" "Lcom/example/gatedb/gatedb/pgwire/PgType;" (.ref v_TIME) := (own_sta_keep Sv_TIME Kq174)
  have c223 : Sta Z T174.heap "com/example/gatedb/gatedb/pgwire/PgType" "TIMESTAMP" "Lcom/example/gatedb/gatedb/pgwire/PgType;" (.ref v_TIMESTAMP) := (own_sta_keep Sv_TIMESTAMP Kq174)
  have c224 : Sta Z T174.heap "com/example/gatedb/gatedb/pgwire/PgType" "TIMESTAMPTZ" "Lcom/example/gatedb/gatedb/pgwire/PgType;" (.ref v_TIMESTAMPTZ) := (own_sta_keep Sv_TIMESTAMPTZ Kq174)
  have c225 : Arv Z T174.heap v__VALUES kV (.object "com/example/gatedb/gatedb/pgwire/PgType") (15 : Int32) [(.ref v_BOOL), (.ref v_INT2), (.ref v_INT4), (.ref v_INT8), (.ref v_TEXT), (.ref v_VARCHAR), (.ref v_BPCHAR), (.ref v_NAME), (.ref v_FLOAT4), (.ref v_FLOAT8), (.ref v_NUMERIC), (.ref v_DATE), (.ref v_TIME), (.ref v_TIMESTAMP), (.ref v_TIMESTAMPTZ)] .null := (V0.keep Kq174 List.not_mem_nil)
  obtain ⟨_, _, ⟨T207, L207, k207, n207⟩, -, X207, ⟨Lc207, hQ207, l207, y207, z207⟩, st207⟩ := Jvm.LawKit.callS X174 hx (y := (⟨"com/example/gatedb/gatedb/pgwire/PgType", "ofOid", "(I)Lcom/example/gatedb/gatedb/pgwire/PgType;"⟩ : MethodName)) hown (mvT hZ (hw _ (List.mem_of_getElem? (i := 5) rfl))) (mvT hZ (hw _ (List.mem_of_getElem? (i := 6) rfl))) (mvT hZ (hw _ (List.mem_of_getElem? (i := 7) rfl))) (mvT hZ (hw _ (List.mem_of_getElem? (i := 8) rfl))) (by decide) (backOf (W := 0) (rm2 l Z a0 hw [] ((f_oid kk) + (p2 % (3 : Int32))) kV v__VALUES v_BOOL v_INT2 v_INT4 v_INT8 v_TEXT v_VARCHAR v_BPCHAR v_NAME v_FLOAT4 v_FLOAT8 v_NUMERIC v_DATE v_TIME v_TIMESTAMP v_TIMESTAMPTZ T174.heap n0 (Nat.le_trans Z0 K175.1) c208 c209 c210 c177 c211 c179 c212 c181 c213 c183 c214 c185 c215 c187 c216 c189 c217 c191 c218 c193 c219 c195 c220 c197 c221 c199 c222 c201 c223 c203 c224 c205 c178 c180 c182 c184 c186 c188 c190 c192 c194 c196 c198 c200 c202 c204 c206 c225) hZ (hw _ (List.mem_of_getElem? (i := 8) rfl)) (hw _ (List.mem_of_getElem? (i := 7) rfl)) (by decide) (by decide)) (g := (mkF m 31 #[.val (.int p0), .val (.int p1), .val (.int p2), .val (.int kk), .val (.int (f_oid kk)), .val (.int ((f_oid kk) + (p2 % (3 : Int32)))), .val (.ref ba), .unset, .unset, .unset, .unset, .unset, .unset] [(.int ((f_oid kk) + (p2 % (3 : Int32))))])) rfl (by rw [hml]; rfl) (argsL := [(.int ((f_oid kk) + (p2 % (3 : Int32))))]) (rest := []) (lenOf pd__I_Lcom_example_gatedb_gatedb_pgwire_PgType_ rfl) rfl (by show 2 * 0 + _ ≤ _; exact Nat.le_of_eq rfl) (hb hby at_31) (fun _ _ => ⟨rfl, rfl, (by decide : 1 + 1 ≤ _), (by decide : 15 + 15 ≤ _)⟩)
  dsimp only [Pt.U, Pt.locs, Pt.cells, Pt.slots] at X207 l207 y207 z207 st207 hQ207
  subst l207 y207 z207
  obtain ⟨rfl, Nq207, Kq207⟩ := hQ207
  have K226 : Keep h0 T207.heap [] := K175.trans Kq207 (fun x hx => by simp at hx)
  have N207 := Fr.app N174 Nq207
  have c228 : Sta Z T207.heap "com/example/gatedb/gatedb/pgwire/PgType" "$VALUES" "[Lcom/example/gatedb/gatedb/pgwire/PgType;" (.ref v__VALUES) := (own_sta_keep c208 Kq207)
  have c229 : Exa Z T207.heap v__VALUES "[Lcom/example/gatedb/gatedb/pgwire/PgType;" := (c209.keep Kq207)
  have c230 : Sta Z T207.heap "com/example/gatedb/gatedb/pgwire/PgType" "BOOL" "Lcom/example/gatedb/gatedb/pgwire/PgType;" (.ref v_BOOL) := (own_sta_keep c210 Kq207)
  have c231 : Exa Z T207.heap v_BOOL "com/example/gatedb/gatedb/pgwire/PgType" := (c177.keep Kq207)
  have c232 : Sta Z T207.heap "com/example/gatedb/gatedb/pgwire/PgType" "INT2" "Lcom/example/gatedb/gatedb/pgwire/PgType;" (.ref v_INT2) := (own_sta_keep c211 Kq207)
  have c233 : Exa Z T207.heap v_INT2 "com/example/gatedb/gatedb/pgwire/PgType" := (c179.keep Kq207)
  have c234 : Sta Z T207.heap "com/example/gatedb/gatedb/pgwire/PgType" "INT4" "Lcom/example/gatedb/gatedb/pgwire/PgType;" (.ref v_INT4) := (own_sta_keep c212 Kq207)
  have c235 : Exa Z T207.heap v_INT4 "com/example/gatedb/gatedb/pgwire/PgType" := (c181.keep Kq207)
  have c236 : Sta Z T207.heap "com/example/gatedb/gatedb/pgwire/PgType" "INT8" "Lcom/example/gatedb/gatedb/pgwire/PgType;" (.ref v_INT8) := (own_sta_keep c213 Kq207)
  have c237 : Exa Z T207.heap v_INT8 "com/example/gatedb/gatedb/pgwire/PgType" := (c183.keep Kq207)
  have c238 : Sta Z T207.heap "com/example/gatedb/gatedb/pgwire/PgType" "TEXT" "Lcom/example/gatedb/gatedb/pgwire/PgType;" (.ref v_TEXT) := (own_sta_keep c214 Kq207)
  have c239 : Exa Z T207.heap v_TEXT "com/example/gatedb/gatedb/pgwire/PgType" := (c185.keep Kq207)
  have c240 : Sta Z T207.heap "com/example/gatedb/gatedb/pgwire/PgType" "VARCHAR" "Lcom/example/gatedb/gatedb/pgwire/PgType;" (.ref v_VARCHAR) := (own_sta_keep c215 Kq207)
  have c241 : Exa Z T207.heap v_VARCHAR "com/example/gatedb/gatedb/pgwire/PgType" := (c187.keep Kq207)
  have c242 : Sta Z T207.heap "com/example/gatedb/gatedb/pgwire/PgType" "BPCHAR" "Lcom/example/gatedb/gatedb/pgwire/PgType;" (.ref v_BPCHAR) := (own_sta_keep c216 Kq207)
  have c243 : Exa Z T207.heap v_BPCHAR "com/example/gatedb/gatedb/pgwire/PgType" := (c189.keep Kq207)
  have c244 : Sta Z T207.heap "com/example/gatedb/gatedb/pgwire/PgType" "NAME" "Lcom/example/gatedb/gatedb/pgwire/PgType;" (.ref v_NAME) := (own_sta_keep c217 Kq207)
  have c245 : Exa Z T207.heap v_NAME "com/example/gatedb/gatedb/pgwire/PgType" := (c191.keep Kq207)
  have c246 : Sta Z T207.heap "com/example/gatedb/gatedb/pgwire/PgType" "FLOAT4" "Lcom/example/gatedb/gatedb/pgwire/PgType;" (.ref v_FLOAT4) := (own_sta_keep c218 Kq207)
  have c247 : Exa Z T207.heap v_FLOAT4 "com/example/gatedb/gatedb/pgwire/PgType" := (c193.keep Kq207)
  have c248 : Sta Z T207.heap "com/example/gatedb/gatedb/pgwire/PgType" "FLOAT8" "Lcom/example/gatedb/gatedb/pgwire/PgType;" (.ref v_FLOAT8) := (own_sta_keep c219 Kq207)
  have c249 : Exa Z T207.heap v_FLOAT8 "com/example/gatedb/gatedb/pgwire/PgType" := (c195.keep Kq207)
  have c250 : Sta Z T207.heap "com/example/gatedb/gatedb/pgwire/PgType" "NUMERIC" "Lcom/example/gatedb/gatedb/pgwire/PgType;" (.ref v_NUMERIC) := (own_sta_keep c220 Kq207)
  have c251 : Exa Z T207.heap v_NUMERIC "com/example/gatedb/gatedb/pgwire/PgType" := (c197.keep Kq207)
  have c252 : Sta Z T207.heap "com/example/gatedb/gatedb/pgwire/PgType" "DATE" "Lcom/example/gatedb/gatedb/pgwire/PgType;" (.ref v_DATE) := (own_sta_keep c221 Kq207)
  have c253 : Exa Z T207.heap v_DATE "com/example/gatedb/gatedb/pgwire/PgType" := (c199.keep Kq207)
  have c254 : Sta Z T207.heap "com/example/gatedb/gatedb/pgwire/PgType" "TIME" "Lcom/example/gatedb/gatedb/pgwire/PgType;" (.ref v_TIME) := (own_sta_keep c222 Kq207)
  have c255 : Exa Z T207.heap v_TIME "com/example/gatedb/gatedb/pgwire/PgType" := (c201.keep Kq207)
  have c256 : Sta Z T207.heap "com/example/gatedb/gatedb/pgwire/PgType" "TIMESTAMP" "Lcom/example/gatedb/gatedb/pgwire/PgType;" (.ref v_TIMESTAMP) := (own_sta_keep c223 Kq207)
  have c257 : Exa Z T207.heap v_TIMESTAMP "com/example/gatedb/gatedb/pgwire/PgType" := (c203.keep Kq207)
  have c258 : Sta Z T207.heap "com/example/gatedb/gatedb/pgwire/PgType" "TIMESTAMPTZ" "Lcom/example/gatedb/gatedb/pgwire/PgType;" (.ref v_TIMESTAMPTZ) := (own_sta_keep c224 Kq207)
  have c259 : Exa Z T207.heap v_TIMESTAMPTZ "com/example/gatedb/gatedb/pgwire/PgType" := (c205.keep Kq207)
  have c260 : Fld Z T207.heap v_BOOL "com/example/gatedb/gatedb/pgwire/PgType" "oid" "I" (.int (16 : Int32)) := (c178.keep Kq207 List.not_mem_nil)
  have c261 : Fld Z T207.heap v_INT2 "com/example/gatedb/gatedb/pgwire/PgType" "oid" "I" (.int (21 : Int32)) := (c180.keep Kq207 List.not_mem_nil)
  have c262 : Fld Z T207.heap v_INT4 "com/example/gatedb/gatedb/pgwire/PgType" "oid" "I" (.int (23 : Int32)) := (c182.keep Kq207 List.not_mem_nil)
  have c263 : Fld Z T207.heap v_INT8 "com/example/gatedb/gatedb/pgwire/PgType" "oid" "I" (.int (20 : Int32)) := (c184.keep Kq207 List.not_mem_nil)
  have c264 : Fld Z T207.heap v_TEXT "com/example/gatedb/gatedb/pgwire/PgType" "oid" "I" (.int (25 : Int32)) := (c186.keep Kq207 List.not_mem_nil)
  have c265 : Fld Z T207.heap v_VARCHAR "com/example/gatedb/gatedb/pgwire/PgType" "oid" "I" (.int (1043 : Int32)) := (c188.keep Kq207 List.not_mem_nil)
  have c266 : Fld Z T207.heap v_BPCHAR "com/example/gatedb/gatedb/pgwire/PgType" "oid" "I" (.int (1042 : Int32)) := (c190.keep Kq207 List.not_mem_nil)
  have c267 : Fld Z T207.heap v_NAME "com/example/gatedb/gatedb/pgwire/PgType" "oid" "I" (.int (19 : Int32)) := (c192.keep Kq207 List.not_mem_nil)
  have c268 : Fld Z T207.heap v_FLOAT4 "com/example/gatedb/gatedb/pgwire/PgType" "oid" "I" (.int (700 : Int32)) := (c194.keep Kq207 List.not_mem_nil)
  have c269 : Fld Z T207.heap v_FLOAT8 "com/example/gatedb/gatedb/pgwire/PgType" "oid" "I" (.int (701 : Int32)) := (c196.keep Kq207 List.not_mem_nil)
  have c270 : Fld Z T207.heap v_NUMERIC "com/example/gatedb/gatedb/pgwire/PgType" "oid" "I" (.int (1700 : Int32)) := (c198.keep Kq207 List.not_mem_nil)
  have c271 : Fld Z T207.heap v_DATE "com/example/gatedb/gatedb/pgwire/PgType" "oid" "I" (.int (1082 : Int32)) := (c200.keep Kq207 List.not_mem_nil)
  have c272 : Fld Z T207.heap v_TIME "com/example/gatedb/gatedb/pgwire/PgType" "oid" "I" (.int (1083 : Int32)) := (c202.keep Kq207 List.not_mem_nil)
  have c273 : Fld Z T207.heap v_TIMESTAMP "com/example/gatedb/gatedb/pgwire/PgType" "oid" "I" (.int (1114 : Int32)) := (c204.keep Kq207 List.not_mem_nil)
  have c274 : Fld Z T207.heap v_TIMESTAMPTZ "com/example/gatedb/gatedb/pgwire/PgType" "oid" "I" (.int (1184 : Int32)) := (c206.keep Kq207 List.not_mem_nil)
  have c275 : Arv Z T207.heap v__VALUES kV (.object "com/example/gatedb/gatedb/pgwire/PgType") (15 : Int32) [(.ref v_BOOL), (.ref v_INT2), (.ref v_INT4), (.ref v_INT8), (.ref v_TEXT), (.ref v_VARCHAR), (.ref v_BPCHAR), (.ref v_NAME), (.ref v_FLOAT4), (.ref v_FLOAT8), (.ref v_NUMERIC), (.ref v_DATE), (.ref v_TIME), (.ref v_TIMESTAMP), (.ref v_TIMESTAMPTZ)] .null := (c225.keep Kq207 List.not_mem_nil)
  obtain ⟨_, _, ⟨T227, L227, k227, n227⟩, -, X227, ⟨Lc227, hQ227, l227, y227, z227⟩, st227⟩ := Jvm.LawKit.callS X207 hx (y := (⟨"com/example/gatedb/gatedb/pgwire/PgType", "ofOid", "(I)Lcom/example/gatedb/gatedb/pgwire/PgType;"⟩ : MethodName)) hown (mvT hZ (hw _ (List.mem_of_getElem? (i := 5) rfl))) (mvT hZ (hw _ (List.mem_of_getElem? (i := 6) rfl))) (mvT hZ (hw _ (List.mem_of_getElem? (i := 7) rfl))) (mvT hZ (hw _ (List.mem_of_getElem? (i := 8) rfl))) (by decide) (backOf (W := 0) (rm2 l Z a0 hw [] p0 kV v__VALUES v_BOOL v_INT2 v_INT4 v_INT8 v_TEXT v_VARCHAR v_BPCHAR v_NAME v_FLOAT4 v_FLOAT8 v_NUMERIC v_DATE v_TIME v_TIMESTAMP v_TIMESTAMPTZ T207.heap n0 (Nat.le_trans Z0 K226.1) c228 c229 c230 c231 c232 c233 c234 c235 c236 c237 c238 c239 c240 c241 c242 c243 c244 c245 c246 c247 c248 c249 c250 c251 c252 c253 c254 c255 c256 c257 c258 c259 c260 c261 c262 c263 c264 c265 c266 c267 c268 c269 c270 c271 c272 c273 c274 c275) hZ (hw _ (List.mem_of_getElem? (i := 8) rfl)) (hw _ (List.mem_of_getElem? (i := 7) rfl)) (by decide) (by decide)) (g := (mkF m 37 #[.val (.int p0), .val (.int p1), .val (.int p2), .val (.int kk), .val (.int (f_oid kk)), .val (.int ((f_oid kk) + (p2 % (3 : Int32)))), .val (.ref ba), .val (f_of ((f_oid kk) + (p2 % (3 : Int32))) v_BOOL v_INT2 v_INT4 v_INT8 v_TEXT v_VARCHAR v_BPCHAR v_NAME v_FLOAT4 v_FLOAT8 v_NUMERIC v_DATE v_TIME v_TIMESTAMP v_TIMESTAMPTZ), .unset, .unset, .unset, .unset, .unset] [(.int p0)])) rfl (by rw [hml]; rfl) (argsL := [(.int p0)]) (rest := []) (lenOf pd__I_Lcom_example_gatedb_gatedb_pgwire_PgType_ rfl) rfl (by show 2 * 0 + _ ≤ _; exact Nat.le_of_eq rfl) (hb hby at_37) (fun _ _ => ⟨rfl, rfl, (by decide : 2 + 1 ≤ _), (by decide : 30 + 15 ≤ _)⟩)
  dsimp only [Pt.U, Pt.locs, Pt.cells, Pt.slots] at X227 l227 y227 z227 st227 hQ227
  subst l227 y227 z227
  obtain ⟨rfl, Nq227, Kq227⟩ := hQ227
  have K276 : Keep h0 T227.heap [] := K226.trans Kq227 (fun x hx => by simp at hx)
  have N227 := Fr.app N207 Nq227
  have c278 : Sta Z T227.heap "com/example/gatedb/gatedb/pgwire/PgType" "BOOL" "Lcom/example/gatedb/gatedb/pgwire/PgType;" (.ref v_BOOL) := (own_sta_keep c230 Kq227)
  have c279 : Sta Z T227.heap "com/example/gatedb/gatedb/pgwire/PgType" "INT2" "Lcom/example/gatedb/gatedb/pgwire/PgType;" (.ref v_INT2) := (own_sta_keep c232 Kq227)
  have c280 : Sta Z T227.heap "com/example/gatedb/gatedb/pgwire/PgType" "INT4" "Lcom/example/gatedb/gatedb/pgwire/PgType;" (.ref v_INT4) := (own_sta_keep c234 Kq227)
  have c281 : Sta Z T227.heap "com/example/gatedb/gatedb/pgwire/PgType" "INT8" "Lcom/example/gatedb/gatedb/pgwire/PgType;" (.ref v_INT8) := (own_sta_keep c236 Kq227)
  have c282 : Sta Z T227.heap "com/example/gatedb/gatedb/pgwire/PgType" "TEXT" "Lcom/example/gatedb/gatedb/pgwire/PgType;" (.ref v_TEXT) := (own_sta_keep c238 Kq227)
  have c283 : Sta Z T227.heap "com/example/gatedb/gatedb/pgwire/PgType" "VARCHAR" "Lcom/example/gatedb/gatedb/pgwire/PgType;" (.ref v_VARCHAR) := (own_sta_keep c240 Kq227)
  have c284 : Sta Z T227.heap "com/example/gatedb/gatedb/pgwire/PgType" "BPCHAR" "Lcom/example/gatedb/gatedb/pgwire/PgType;" (.ref v_BPCHAR) := (own_sta_keep c242 Kq227)
  have c285 : Sta Z T227.heap "com/example/gatedb/gatedb/pgwire/PgType" "NAME" "Lcom/example/gatedb/gatedb/pgwire/PgType;" (.ref v_NAME) := (own_sta_keep c244 Kq227)
  have c286 : Sta Z T227.heap "com/example/gatedb/gatedb/pgwire/PgType" "FLOAT4" "Lcom/example/gatedb/gatedb/pgwire/PgType;" (.ref v_FLOAT4) := (own_sta_keep c246 Kq227)
  have c287 : Sta Z T227.heap "com/example/gatedb/gatedb/pgwire/PgType" "FLOAT8" "Lcom/example/gatedb/gatedb/pgwire/PgType;" (.ref v_FLOAT8) := (own_sta_keep c248 Kq227)
  have c288 : Sta Z T227.heap "com/example/gatedb/gatedb/pgwire/PgType" "NUMERIC" "Lcom/example/gatedb/gatedb/pgwire/PgType;" (.ref v_NUMERIC) := (own_sta_keep c250 Kq227)
  have c289 : Sta Z T227.heap "com/example/gatedb/gatedb/pgwire/PgType" "DATE" "Lcom/example/gatedb/gatedb/pgwire/PgType;" (.ref v_DATE) := (own_sta_keep c252 Kq227)
  have c290 : Sta Z T227.heap "com/example/gatedb/gatedb/pgwire/PgType" "TIME" "Lcom/example/gatedb/gatedb/pgwire/PgType;" (.ref v_TIME) := (own_sta_keep c254 Kq227)
  have c291 : Sta Z T227.heap "com/example/gatedb/gatedb/pgwire/PgType" "TIMESTAMP" "Lcom/example/gatedb/gatedb/pgwire/PgType;" (.ref v_TIMESTAMP) := (own_sta_keep c256 Kq227)
  have c292 : Sta Z T227.heap "com/example/gatedb/gatedb/pgwire/PgType" "TIMESTAMPTZ" "Lcom/example/gatedb/gatedb/pgwire/PgType;" (.ref v_TIMESTAMPTZ) := (own_sta_keep c258 Kq227)
  obtain ⟨_, _, ⟨T277, L277, k277, n277⟩, -, X277, ⟨Lc277, hQ277, l277, y277, z277⟩, st277⟩ := Jvm.LawKit.callS X227 hx (y := (⟨"com/example/gatedb/gatedb/pgwire/PgTypeOfOidPinLaw", "ref", "(I)Lcom/example/gatedb/gatedb/pgwire/PgType;"⟩ : MethodName)) hown (mvT hZ (hw _ (List.mem_of_getElem? (i := 41) rfl))) (mvT hZ (hw _ (List.mem_of_getElem? (i := 42) rfl))) (mvT hZ (hw _ (List.mem_of_getElem? (i := 3) rfl))) (mvT hZ (hw _ (List.mem_of_getElem? (i := 43) rfl))) (by decide) (backOf (W := 0) (rm4 l Z a0 hw [] (f_oid kk) v_BOOL v_INT2 v_INT4 v_INT8 v_TEXT v_VARCHAR v_BPCHAR v_NAME v_FLOAT4 v_FLOAT8 v_NUMERIC v_DATE v_TIME v_TIMESTAMP v_TIMESTAMPTZ T227.heap n0 (Nat.le_trans Z0 K276.1) c278 c279 c280 c281 c282 c283 c284 c285 c286 c287 c288 c289 c290 c291 c292) hZ (hw _ (List.mem_of_getElem? (i := 43) rfl)) (hw _ (List.mem_of_getElem? (i := 3) rfl)) (by decide) (by decide)) (g := (mkF m 44 #[.val (.int p0), .val (.int p1), .val (.int p2), .val (.int kk), .val (.int (f_oid kk)), .val (.int ((f_oid kk) + (p2 % (3 : Int32)))), .val (.ref ba), .val (f_of ((f_oid kk) + (p2 % (3 : Int32))) v_BOOL v_INT2 v_INT4 v_INT8 v_TEXT v_VARCHAR v_BPCHAR v_NAME v_FLOAT4 v_FLOAT8 v_NUMERIC v_DATE v_TIME v_TIMESTAMP v_TIMESTAMPTZ), .val (f_of p0 v_BOOL v_INT2 v_INT4 v_INT8 v_TEXT v_VARCHAR v_BPCHAR v_NAME v_FLOAT4 v_FLOAT8 v_NUMERIC v_DATE v_TIME v_TIMESTAMP v_TIMESTAMPTZ), .unset, .unset, .unset, .unset] [(.int (f_oid kk))])) rfl (by rw [hml]; rfl) (argsL := [(.int (f_oid kk))]) (rest := []) (lenOf pd__I_Lcom_example_gatedb_gatedb_pgwire_PgType_ rfl) rfl (by show 2 * 0 + _ ≤ _; exact Nat.le_of_eq rfl) (hb hby at_44) (fun _ _ => ⟨rfl, rfl, (by decide : 3 + 0 ≤ _), (by decide : 45 + 0 ≤ _)⟩)
  dsimp only [Pt.U, Pt.locs, Pt.cells, Pt.slots] at X277 l277 y277 z277 st277 hQ277
  subst l277 y277 z277
  obtain ⟨rfl, Nq277, e277⟩ := hQ277
  have N277 := Fr.app N227 Nq277
  have c293 : Exa Z T227.heap ba "com/example/gatedb/gatedb/pgwire/PgType" := ((Eba.keep Kq207).keep Kq227)
  have c295 : Fld Z T227.heap ba "com/example/gatedb/gatedb/pgwire/PgType" "oid" "I" (.int (f_oid kk)) := ((Fba.keep Kq207 List.not_mem_nil).keep Kq227 List.not_mem_nil)
  obtain ⟨cq294, kq294, q294a, q294b, q294c⟩ := isOf hZ e277 c293
  obtain ⟨_, _, ⟨T294, L294, k294, n294⟩, -, X294, ⟨Lc294, hQ294, l294, y294, z294⟩, st294⟩ := X277.virtualBack hx (y := (⟨"com/example/gatedb/gatedb/pgwire/PgType", "oid", "()I"⟩ : MethodName)) (z := (⟨"com/example/gatedb/gatedb/pgwire/PgType", "oid", "()I"⟩ : MethodName)) hown (mvT hZ (hw _ (List.mem_of_getElem? (i := 45) rfl))) (mvT hZ (hw _ (List.mem_of_getElem? (i := 46) rfl))) (notFace_of_selects (args := #[]) (mvT hZ (hw _ (List.mem_of_getElem? (i := 48) rfl)))) (mvT hZ (hw _ (List.mem_of_getElem? (i := 48) rfl))) (mvT hZ (hw _ (List.mem_of_getElem? (i := 47) rfl))) (by decide) (backOf (W := 0) (rm5 l Z a0 hw [] ba (f_oid kk) T227.heap n0 (Nat.le_trans Z0 K276.1) c295) hZ (hw _ (List.mem_of_getElem? (i := 49) rfl)) (hw _ (List.mem_of_getElem? (i := 7) rfl)) (by decide) (by decide)) q294a q294c (g := (mkF m 63 #[.val (.int p0), .val (.int p1), .val (.int p2), .val (.int kk), .val (.int (f_oid kk)), .val (.int ((f_oid kk) + (p2 % (3 : Int32)))), .val (.ref ba), .val (f_of ((f_oid kk) + (p2 % (3 : Int32))) v_BOOL v_INT2 v_INT4 v_INT8 v_TEXT v_VARCHAR v_BPCHAR v_NAME v_FLOAT4 v_FLOAT8 v_NUMERIC v_DATE v_TIME v_TIMESTAMP v_TIMESTAMPTZ), .val (f_of p0 v_BOOL v_INT2 v_INT4 v_INT8 v_TEXT v_VARCHAR v_BPCHAR v_NAME v_FLOAT4 v_FLOAT8 v_NUMERIC v_DATE v_TIME v_TIMESTAMP v_TIMESTAMPTZ), .val (f_ref (f_oid kk) v_BOOL v_INT2 v_INT4 v_INT8 v_TEXT v_VARCHAR v_BPCHAR v_NAME v_FLOAT4 v_FLOAT8 v_NUMERIC v_DATE v_TIME v_TIMESTAMP v_TIMESTAMPTZ), .unset, .unset, .unset] [(.ref ba)])) rfl (by rw [hml]; rfl) (Steps.refl _) (argsL := []) (rest := []) (lenOf pd___I rfl) rfl (by show 2 * 0 + _ ≤ _; exact Nat.le_of_eq rfl) (hb hby at_63) (fun _ _ => ⟨rfl, e277, (by decide : 3 + 0 ≤ _), (by decide : 45 + 0 ≤ _)⟩)
  dsimp only [Pt.U, Pt.locs, Pt.cells, Pt.slots] at X294 l294 y294 z294 st294 hQ294
  subst l294 y294 z294
  obtain ⟨rfl, Nq294, e294⟩ := hQ294
  have N294 := Fr.app N277 Nq294
  obtain ⟨_, _, ⟨T296, L296, k296, n296⟩, -, X296, ⟨Lc296, hQ296, l296, y296, z296⟩, st296⟩ := Jvm.LawKit.callS X294 hx (y := (⟨"com/example/gatedb/gatedb/pgwire/PgTypeOfOidPinLaw", "ref", "(I)Lcom/example/gatedb/gatedb/pgwire/PgType;"⟩ : MethodName)) hown (mvT hZ (hw _ (List.mem_of_getElem? (i := 41) rfl))) (mvT hZ (hw _ (List.mem_of_getElem? (i := 42) rfl))) (mvT hZ (hw _ (List.mem_of_getElem? (i := 3) rfl))) (mvT hZ (hw _ (List.mem_of_getElem? (i := 43) rfl))) (by decide) (backOf (W := 1) (rm4 l Z a0 hw [] ((f_oid kk) + (p2 % (3 : Int32))) v_BOOL v_INT2 v_INT4 v_INT8 v_TEXT v_VARCHAR v_BPCHAR v_NAME v_FLOAT4 v_FLOAT8 v_NUMERIC v_DATE v_TIME v_TIMESTAMP v_TIMESTAMPTZ T227.heap n0 (Nat.le_trans Z0 K276.1) c278 c279 c280 c281 c282 c283 c284 c285 c286 c287 c288 c289 c290 c291 c292) hZ (hw _ (List.mem_of_getElem? (i := 43) rfl)) (hw _ (List.mem_of_getElem? (i := 3) rfl)) (by decide) (by decide)) (g := (mkF m 82 #[.val (.int p0), .val (.int p1), .val (.int p2), .val (.int kk), .val (.int (f_oid kk)), .val (.int ((f_oid kk) + (p2 % (3 : Int32)))), .val (.ref ba), .val (f_of ((f_oid kk) + (p2 % (3 : Int32))) v_BOOL v_INT2 v_INT4 v_INT8 v_TEXT v_VARCHAR v_BPCHAR v_NAME v_FLOAT4 v_FLOAT8 v_NUMERIC v_DATE v_TIME v_TIMESTAMP v_TIMESTAMPTZ), .val (f_of p0 v_BOOL v_INT2 v_INT4 v_INT8 v_TEXT v_VARCHAR v_BPCHAR v_NAME v_FLOAT4 v_FLOAT8 v_NUMERIC v_DATE v_TIME v_TIMESTAMP v_TIMESTAMPTZ), .val (f_ref (f_oid kk) v_BOOL v_INT2 v_INT4 v_INT8 v_TEXT v_VARCHAR v_BPCHAR v_NAME v_FLOAT4 v_FLOAT8 v_NUMERIC v_DATE v_TIME v_TIMESTAMP v_TIMESTAMPTZ), .val (.int (1 : Int32)), .unset, .unset] [(.int ((f_oid kk) + (p2 % (3 : Int32)))), (f_of ((f_oid kk) + (p2 % (3 : Int32))) v_BOOL v_INT2 v_INT4 v_INT8 v_TEXT v_VARCHAR v_BPCHAR v_NAME v_FLOAT4 v_FLOAT8 v_NUMERIC v_DATE v_TIME v_TIMESTAMP v_TIMESTAMPTZ)])) rfl (by rw [hml]; rfl) (argsL := [(.int ((f_oid kk) + (p2 % (3 : Int32))))]) (rest := [(f_of ((f_oid kk) + (p2 % (3 : Int32))) v_BOOL v_INT2 v_INT4 v_INT8 v_TEXT v_VARCHAR v_BPCHAR v_NAME v_FLOAT4 v_FLOAT8 v_NUMERIC v_DATE v_TIME v_TIMESTAMP v_TIMESTAMPTZ)]) (lenOf pd__I_Lcom_example_gatedb_gatedb_pgwire_PgType_ rfl) rfl (by show 2 * 0 + _ ≤ _; simp only [List.map_cons, List.map_nil, List.sum_cons, List.sum_nil, XT.cat1 (own_rf_f_of ((f_oid kk) + (p2 % (3 : Int32))) v_BOOL v_INT2 v_INT4 v_INT8 v_TEXT v_VARCHAR v_BPCHAR v_NAME v_FLOAT4 v_FLOAT8 v_NUMERIC v_DATE v_TIME v_TIMESTAMP v_TIMESTAMPTZ)]; exact Nat.le_of_eq rfl) (hb hby at_82) (fun _ _ => ⟨rfl, e294, (by decide : 3 + 0 ≤ _), (by decide : 45 + 0 ≤ _)⟩)
  dsimp only [Pt.U, Pt.locs, Pt.cells, Pt.slots] at X296 l296 y296 z296 st296 hQ296
  subst l296 y296 z296
  obtain ⟨rfl, Nq296, e296⟩ := hQ296
  have N296 := Fr.app N294 Nq296
  obtain ⟨_, _, ⟨T297, L297, k297, n297⟩, -, X297, ⟨Lc297, hQ297, l297, y297, z297⟩, st297⟩ := Jvm.LawKit.callS X296 hx (y := (⟨"com/example/gatedb/gatedb/pgwire/PgTypeOfOidPinLaw", "ref", "(I)Lcom/example/gatedb/gatedb/pgwire/PgType;"⟩ : MethodName)) hown (mvT hZ (hw _ (List.mem_of_getElem? (i := 41) rfl))) (mvT hZ (hw _ (List.mem_of_getElem? (i := 42) rfl))) (mvT hZ (hw _ (List.mem_of_getElem? (i := 3) rfl))) (mvT hZ (hw _ (List.mem_of_getElem? (i := 43) rfl))) (by decide) (backOf (W := 1) (rm4 l Z a0 hw [] p0 v_BOOL v_INT2 v_INT4 v_INT8 v_TEXT v_VARCHAR v_BPCHAR v_NAME v_FLOAT4 v_FLOAT8 v_NUMERIC v_DATE v_TIME v_TIMESTAMP v_TIMESTAMPTZ T227.heap n0 (Nat.le_trans Z0 K276.1) c278 c279 c280 c281 c282 c283 c284 c285 c286 c287 c288 c289 c290 c291 c292) hZ (hw _ (List.mem_of_getElem? (i := 43) rfl)) (hw _ (List.mem_of_getElem? (i := 3) rfl)) (by decide) (by decide)) (g := (mkF m 98 #[.val (.int p0), .val (.int p1), .val (.int p2), .val (.int kk), .val (.int (f_oid kk)), .val (.int ((f_oid kk) + (p2 % (3 : Int32)))), .val (.ref ba), .val (f_of ((f_oid kk) + (p2 % (3 : Int32))) v_BOOL v_INT2 v_INT4 v_INT8 v_TEXT v_VARCHAR v_BPCHAR v_NAME v_FLOAT4 v_FLOAT8 v_NUMERIC v_DATE v_TIME v_TIMESTAMP v_TIMESTAMPTZ), .val (f_of p0 v_BOOL v_INT2 v_INT4 v_INT8 v_TEXT v_VARCHAR v_BPCHAR v_NAME v_FLOAT4 v_FLOAT8 v_NUMERIC v_DATE v_TIME v_TIMESTAMP v_TIMESTAMPTZ), .val (f_ref (f_oid kk) v_BOOL v_INT2 v_INT4 v_INT8 v_TEXT v_VARCHAR v_BPCHAR v_NAME v_FLOAT4 v_FLOAT8 v_NUMERIC v_DATE v_TIME v_TIMESTAMP v_TIMESTAMPTZ), .val (.int (1 : Int32)), .val (.int (1 : Int32)), .unset] [(.int p0), (f_of p0 v_BOOL v_INT2 v_INT4 v_INT8 v_TEXT v_VARCHAR v_BPCHAR v_NAME v_FLOAT4 v_FLOAT8 v_NUMERIC v_DATE v_TIME v_TIMESTAMP v_TIMESTAMPTZ)])) rfl (by rw [hml]; rfl) (argsL := [(.int p0)]) (rest := [(f_of p0 v_BOOL v_INT2 v_INT4 v_INT8 v_TEXT v_VARCHAR v_BPCHAR v_NAME v_FLOAT4 v_FLOAT8 v_NUMERIC v_DATE v_TIME v_TIMESTAMP v_TIMESTAMPTZ)]) (lenOf pd__I_Lcom_example_gatedb_gatedb_pgwire_PgType_ rfl) rfl (by show 2 * 0 + _ ≤ _; simp only [List.map_cons, List.map_nil, List.sum_cons, List.sum_nil, XT.cat1 (own_rf_f_of p0 v_BOOL v_INT2 v_INT4 v_INT8 v_TEXT v_VARCHAR v_BPCHAR v_NAME v_FLOAT4 v_FLOAT8 v_NUMERIC v_DATE v_TIME v_TIMESTAMP v_TIMESTAMPTZ)]; exact Nat.le_of_eq rfl) (hb hby at_98) (fun _ _ => ⟨rfl, e296, (by decide : 3 + 0 ≤ _), (by decide : 45 + 0 ≤ _)⟩)
  dsimp only [Pt.U, Pt.locs, Pt.cells, Pt.slots] at X297 l297 y297 z297 st297 hQ297
  subst l297 y297 z297
  obtain ⟨rfl, Nq297, e297⟩ := hQ297
  have N297 := Fr.app N296 Nq297
  obtain ⟨fs, hrT, hrunT, hendT, hWT, hsameT⟩ := X297.leave (hlocks := BodyLoose.notSynchronized Bd) (v := some (.int (1 : Int32))) (fun h => by rw [Bd.returns] at h; cases h)
  refine ⟨_, _, S176 _ ?_, hrunT, hendT, _, _, rfl, ?_, ⟨_, rfl⟩, hWT, hsameT.mono (by decide) (by decide)⟩
  · show Steps p.tables e below (T174.setTop (mkF m 29 #[.val (.int p0), .val (.int p1), .val (.int p2), .val (.int kk), .val (.int (f_oid kk)), .val (.int ((f_oid kk) + (p2 % (3 : Int32)))), .val (.ref ba), .unset, .unset, .unset, .unset, .unset, .unset] [])) _
    refine XS.iload X174.here hx rfl (hb hby at_29) rfl ?_
    show Steps p.tables e below (T174.setTop (mkF m 31 #[.val (.int p0), .val (.int p1), .val (.int p2), .val (.int kk), .val (.int (f_oid kk)), .val (.int ((f_oid kk) + (p2 % (3 : Int32)))), .val (.ref ba), .unset, .unset, .unset, .unset, .unset, .unset] [(.int ((f_oid kk) + (p2 % (3 : Int32))))])) _
    refine st207 _ ?_
    show Steps p.tables e below (T207.setTop (mkF m 34 #[.val (.int p0), .val (.int p1), .val (.int p2), .val (.int kk), .val (.int (f_oid kk)), .val (.int ((f_oid kk) + (p2 % (3 : Int32)))), .val (.ref ba), .unset, .unset, .unset, .unset, .unset, .unset] [(f_of ((f_oid kk) + (p2 % (3 : Int32))) v_BOOL v_INT2 v_INT4 v_INT8 v_TEXT v_VARCHAR v_BPCHAR v_NAME v_FLOAT4 v_FLOAT8 v_NUMERIC v_DATE v_TIME v_TIMESTAMP v_TIMESTAMPTZ)])) _
    refine XS.astore X207.here hx rfl (hb hby at_34) rfl (own_rf_f_of ((f_oid kk) + (p2 % (3 : Int32))) v_BOOL v_INT2 v_INT4 v_INT8 v_TEXT v_VARCHAR v_BPCHAR v_NAME v_FLOAT4 v_FLOAT8 v_NUMERIC v_DATE v_TIME v_TIMESTAMP v_TIMESTAMPTZ) (l' := #[.val (.int p0), .val (.int p1), .val (.int p2), .val (.int kk), .val (.int (f_oid kk)), .val (.int ((f_oid kk) + (p2 % (3 : Int32)))), .val (.ref ba), .val (f_of ((f_oid kk) + (p2 % (3 : Int32))) v_BOOL v_INT2 v_INT4 v_INT8 v_TEXT v_VARCHAR v_BPCHAR v_NAME v_FLOAT4 v_FLOAT8 v_NUMERIC v_DATE v_TIME v_TIMESTAMP v_TIMESTAMPTZ), .unset, .unset, .unset, .unset, .unset]) (XS.store1 rfl (Or.inl rfl) (XT.cat1 (own_rf_f_of ((f_oid kk) + (p2 % (3 : Int32))) v_BOOL v_INT2 v_INT4 v_INT8 v_TEXT v_VARCHAR v_BPCHAR v_NAME v_FLOAT4 v_FLOAT8 v_NUMERIC v_DATE v_TIME v_TIMESTAMP v_TIMESTAMPTZ))) ?_
    show Steps p.tables e below (T207.setTop (mkF m 36 #[.val (.int p0), .val (.int p1), .val (.int p2), .val (.int kk), .val (.int (f_oid kk)), .val (.int ((f_oid kk) + (p2 % (3 : Int32)))), .val (.ref ba), .val (f_of ((f_oid kk) + (p2 % (3 : Int32))) v_BOOL v_INT2 v_INT4 v_INT8 v_TEXT v_VARCHAR v_BPCHAR v_NAME v_FLOAT4 v_FLOAT8 v_NUMERIC v_DATE v_TIME v_TIMESTAMP v_TIMESTAMPTZ), .unset, .unset, .unset, .unset, .unset] [])) _
    refine XS.iloadN X207.here hx rfl (hb hby at_36) rfl ?_
    show Steps p.tables e below (T207.setTop (mkF m 37 #[.val (.int p0), .val (.int p1), .val (.int p2), .val (.int kk), .val (.int (f_oid kk)), .val (.int ((f_oid kk) + (p2 % (3 : Int32)))), .val (.ref ba), .val (f_of ((f_oid kk) + (p2 % (3 : Int32))) v_BOOL v_INT2 v_INT4 v_INT8 v_TEXT v_VARCHAR v_BPCHAR v_NAME v_FLOAT4 v_FLOAT8 v_NUMERIC v_DATE v_TIME v_TIMESTAMP v_TIMESTAMPTZ), .unset, .unset, .unset, .unset, .unset] [(.int p0)])) _
    refine st227 _ ?_
    show Steps p.tables e below (T227.setTop (mkF m 40 #[.val (.int p0), .val (.int p1), .val (.int p2), .val (.int kk), .val (.int (f_oid kk)), .val (.int ((f_oid kk) + (p2 % (3 : Int32)))), .val (.ref ba), .val (f_of ((f_oid kk) + (p2 % (3 : Int32))) v_BOOL v_INT2 v_INT4 v_INT8 v_TEXT v_VARCHAR v_BPCHAR v_NAME v_FLOAT4 v_FLOAT8 v_NUMERIC v_DATE v_TIME v_TIMESTAMP v_TIMESTAMPTZ), .unset, .unset, .unset, .unset, .unset] [(f_of p0 v_BOOL v_INT2 v_INT4 v_INT8 v_TEXT v_VARCHAR v_BPCHAR v_NAME v_FLOAT4 v_FLOAT8 v_NUMERIC v_DATE v_TIME v_TIMESTAMP v_TIMESTAMPTZ)])) _
    refine XS.astore X227.here hx rfl (hb hby at_40) rfl (own_rf_f_of p0 v_BOOL v_INT2 v_INT4 v_INT8 v_TEXT v_VARCHAR v_BPCHAR v_NAME v_FLOAT4 v_FLOAT8 v_NUMERIC v_DATE v_TIME v_TIMESTAMP v_TIMESTAMPTZ) (l' := #[.val (.int p0), .val (.int p1), .val (.int p2), .val (.int kk), .val (.int (f_oid kk)), .val (.int ((f_oid kk) + (p2 % (3 : Int32)))), .val (.ref ba), .val (f_of ((f_oid kk) + (p2 % (3 : Int32))) v_BOOL v_INT2 v_INT4 v_INT8 v_TEXT v_VARCHAR v_BPCHAR v_NAME v_FLOAT4 v_FLOAT8 v_NUMERIC v_DATE v_TIME v_TIMESTAMP v_TIMESTAMPTZ), .val (f_of p0 v_BOOL v_INT2 v_INT4 v_INT8 v_TEXT v_VARCHAR v_BPCHAR v_NAME v_FLOAT4 v_FLOAT8 v_NUMERIC v_DATE v_TIME v_TIMESTAMP v_TIMESTAMPTZ), .unset, .unset, .unset, .unset]) (XS.store1 rfl (Or.inl rfl) (XT.cat1 (own_rf_f_of p0 v_BOOL v_INT2 v_INT4 v_INT8 v_TEXT v_VARCHAR v_BPCHAR v_NAME v_FLOAT4 v_FLOAT8 v_NUMERIC v_DATE v_TIME v_TIMESTAMP v_TIMESTAMPTZ))) ?_
    show Steps p.tables e below (T227.setTop (mkF m 42 #[.val (.int p0), .val (.int p1), .val (.int p2), .val (.int kk), .val (.int (f_oid kk)), .val (.int ((f_oid kk) + (p2 % (3 : Int32)))), .val (.ref ba), .val (f_of ((f_oid kk) + (p2 % (3 : Int32))) v_BOOL v_INT2 v_INT4 v_INT8 v_TEXT v_VARCHAR v_BPCHAR v_NAME v_FLOAT4 v_FLOAT8 v_NUMERIC v_DATE v_TIME v_TIMESTAMP v_TIMESTAMPTZ), .val (f_of p0 v_BOOL v_INT2 v_INT4 v_INT8 v_TEXT v_VARCHAR v_BPCHAR v_NAME v_FLOAT4 v_FLOAT8 v_NUMERIC v_DATE v_TIME v_TIMESTAMP v_TIMESTAMPTZ), .unset, .unset, .unset, .unset] [])) _
    refine XS.iload X227.here hx rfl (hb hby at_42) rfl ?_
    show Steps p.tables e below (T227.setTop (mkF m 44 #[.val (.int p0), .val (.int p1), .val (.int p2), .val (.int kk), .val (.int (f_oid kk)), .val (.int ((f_oid kk) + (p2 % (3 : Int32)))), .val (.ref ba), .val (f_of ((f_oid kk) + (p2 % (3 : Int32))) v_BOOL v_INT2 v_INT4 v_INT8 v_TEXT v_VARCHAR v_BPCHAR v_NAME v_FLOAT4 v_FLOAT8 v_NUMERIC v_DATE v_TIME v_TIMESTAMP v_TIMESTAMPTZ), .val (f_of p0 v_BOOL v_INT2 v_INT4 v_INT8 v_TEXT v_VARCHAR v_BPCHAR v_NAME v_FLOAT4 v_FLOAT8 v_NUMERIC v_DATE v_TIME v_TIMESTAMP v_TIMESTAMPTZ), .unset, .unset, .unset, .unset] [(.int (f_oid kk))])) _
    refine st277 _ ?_
    show Steps p.tables e below (T277.setTop (mkF m 47 #[.val (.int p0), .val (.int p1), .val (.int p2), .val (.int kk), .val (.int (f_oid kk)), .val (.int ((f_oid kk) + (p2 % (3 : Int32)))), .val (.ref ba), .val (f_of ((f_oid kk) + (p2 % (3 : Int32))) v_BOOL v_INT2 v_INT4 v_INT8 v_TEXT v_VARCHAR v_BPCHAR v_NAME v_FLOAT4 v_FLOAT8 v_NUMERIC v_DATE v_TIME v_TIMESTAMP v_TIMESTAMPTZ), .val (f_of p0 v_BOOL v_INT2 v_INT4 v_INT8 v_TEXT v_VARCHAR v_BPCHAR v_NAME v_FLOAT4 v_FLOAT8 v_NUMERIC v_DATE v_TIME v_TIMESTAMP v_TIMESTAMPTZ), .unset, .unset, .unset, .unset] [(f_ref (f_oid kk) v_BOOL v_INT2 v_INT4 v_INT8 v_TEXT v_VARCHAR v_BPCHAR v_NAME v_FLOAT4 v_FLOAT8 v_NUMERIC v_DATE v_TIME v_TIMESTAMP v_TIMESTAMPTZ)])) _
    refine XS.astore X277.here hx rfl (hb hby at_47) rfl (own_rf_f_ref (f_oid kk) v_BOOL v_INT2 v_INT4 v_INT8 v_TEXT v_VARCHAR v_BPCHAR v_NAME v_FLOAT4 v_FLOAT8 v_NUMERIC v_DATE v_TIME v_TIMESTAMP v_TIMESTAMPTZ) (l' := #[.val (.int p0), .val (.int p1), .val (.int p2), .val (.int kk), .val (.int (f_oid kk)), .val (.int ((f_oid kk) + (p2 % (3 : Int32)))), .val (.ref ba), .val (f_of ((f_oid kk) + (p2 % (3 : Int32))) v_BOOL v_INT2 v_INT4 v_INT8 v_TEXT v_VARCHAR v_BPCHAR v_NAME v_FLOAT4 v_FLOAT8 v_NUMERIC v_DATE v_TIME v_TIMESTAMP v_TIMESTAMPTZ), .val (f_of p0 v_BOOL v_INT2 v_INT4 v_INT8 v_TEXT v_VARCHAR v_BPCHAR v_NAME v_FLOAT4 v_FLOAT8 v_NUMERIC v_DATE v_TIME v_TIMESTAMP v_TIMESTAMPTZ), .val (f_ref (f_oid kk) v_BOOL v_INT2 v_INT4 v_INT8 v_TEXT v_VARCHAR v_BPCHAR v_NAME v_FLOAT4 v_FLOAT8 v_NUMERIC v_DATE v_TIME v_TIMESTAMP v_TIMESTAMPTZ), .unset, .unset, .unset]) (XS.store1 rfl (Or.inl rfl) (XT.cat1 (own_rf_f_ref (f_oid kk) v_BOOL v_INT2 v_INT4 v_INT8 v_TEXT v_VARCHAR v_BPCHAR v_NAME v_FLOAT4 v_FLOAT8 v_NUMERIC v_DATE v_TIME v_TIMESTAMP v_TIMESTAMPTZ))) ?_
    show Steps p.tables e below (T277.setTop (mkF m 49 #[.val (.int p0), .val (.int p1), .val (.int p2), .val (.int kk), .val (.int (f_oid kk)), .val (.int ((f_oid kk) + (p2 % (3 : Int32)))), .val (.ref ba), .val (f_of ((f_oid kk) + (p2 % (3 : Int32))) v_BOOL v_INT2 v_INT4 v_INT8 v_TEXT v_VARCHAR v_BPCHAR v_NAME v_FLOAT4 v_FLOAT8 v_NUMERIC v_DATE v_TIME v_TIMESTAMP v_TIMESTAMPTZ), .val (f_of p0 v_BOOL v_INT2 v_INT4 v_INT8 v_TEXT v_VARCHAR v_BPCHAR v_NAME v_FLOAT4 v_FLOAT8 v_NUMERIC v_DATE v_TIME v_TIMESTAMP v_TIMESTAMPTZ), .val (f_ref (f_oid kk) v_BOOL v_INT2 v_INT4 v_INT8 v_TEXT v_VARCHAR v_BPCHAR v_NAME v_FLOAT4 v_FLOAT8 v_NUMERIC v_DATE v_TIME v_TIMESTAMP v_TIMESTAMPTZ), .unset, .unset, .unset] [])) _
    refine XS.aload X277.here hx rfl (hb hby at_49) rfl rfl ?_
    show Steps p.tables e below (T277.setTop (mkF m 51 #[.val (.int p0), .val (.int p1), .val (.int p2), .val (.int kk), .val (.int (f_oid kk)), .val (.int ((f_oid kk) + (p2 % (3 : Int32)))), .val (.ref ba), .val (f_of ((f_oid kk) + (p2 % (3 : Int32))) v_BOOL v_INT2 v_INT4 v_INT8 v_TEXT v_VARCHAR v_BPCHAR v_NAME v_FLOAT4 v_FLOAT8 v_NUMERIC v_DATE v_TIME v_TIMESTAMP v_TIMESTAMPTZ), .val (f_of p0 v_BOOL v_INT2 v_INT4 v_INT8 v_TEXT v_VARCHAR v_BPCHAR v_NAME v_FLOAT4 v_FLOAT8 v_NUMERIC v_DATE v_TIME v_TIMESTAMP v_TIMESTAMPTZ), .val (f_ref (f_oid kk) v_BOOL v_INT2 v_INT4 v_INT8 v_TEXT v_VARCHAR v_BPCHAR v_NAME v_FLOAT4 v_FLOAT8 v_NUMERIC v_DATE v_TIME v_TIMESTAMP v_TIMESTAMPTZ), .unset, .unset, .unset] [(.ref ba)])) _
    refine XS.ifnullNo X277.here hx rfl (hb hby at_51) rfl ?_
    show Steps p.tables e below (T277.setTop (mkF m 54 #[.val (.int p0), .val (.int p1), .val (.int p2), .val (.int kk), .val (.int (f_oid kk)), .val (.int ((f_oid kk) + (p2 % (3 : Int32)))), .val (.ref ba), .val (f_of ((f_oid kk) + (p2 % (3 : Int32))) v_BOOL v_INT2 v_INT4 v_INT8 v_TEXT v_VARCHAR v_BPCHAR v_NAME v_FLOAT4 v_FLOAT8 v_NUMERIC v_DATE v_TIME v_TIMESTAMP v_TIMESTAMPTZ), .val (f_of p0 v_BOOL v_INT2 v_INT4 v_INT8 v_TEXT v_VARCHAR v_BPCHAR v_NAME v_FLOAT4 v_FLOAT8 v_NUMERIC v_DATE v_TIME v_TIMESTAMP v_TIMESTAMPTZ), .val (f_ref (f_oid kk) v_BOOL v_INT2 v_INT4 v_INT8 v_TEXT v_VARCHAR v_BPCHAR v_NAME v_FLOAT4 v_FLOAT8 v_NUMERIC v_DATE v_TIME v_TIMESTAMP v_TIMESTAMPTZ), .unset, .unset, .unset] [])) _
    refine XS.aload X277.here hx rfl (hb hby at_54) rfl rfl ?_
    show Steps p.tables e below (T277.setTop (mkF m 56 #[.val (.int p0), .val (.int p1), .val (.int p2), .val (.int kk), .val (.int (f_oid kk)), .val (.int ((f_oid kk) + (p2 % (3 : Int32)))), .val (.ref ba), .val (f_of ((f_oid kk) + (p2 % (3 : Int32))) v_BOOL v_INT2 v_INT4 v_INT8 v_TEXT v_VARCHAR v_BPCHAR v_NAME v_FLOAT4 v_FLOAT8 v_NUMERIC v_DATE v_TIME v_TIMESTAMP v_TIMESTAMPTZ), .val (f_of p0 v_BOOL v_INT2 v_INT4 v_INT8 v_TEXT v_VARCHAR v_BPCHAR v_NAME v_FLOAT4 v_FLOAT8 v_NUMERIC v_DATE v_TIME v_TIMESTAMP v_TIMESTAMPTZ), .val (f_ref (f_oid kk) v_BOOL v_INT2 v_INT4 v_INT8 v_TEXT v_VARCHAR v_BPCHAR v_NAME v_FLOAT4 v_FLOAT8 v_NUMERIC v_DATE v_TIME v_TIMESTAMP v_TIMESTAMPTZ), .unset, .unset, .unset] [(.ref ba)])) _
    refine XS.aload X277.here hx rfl (hb hby at_56) rfl (own_rf_f_ref (f_oid kk) v_BOOL v_INT2 v_INT4 v_INT8 v_TEXT v_VARCHAR v_BPCHAR v_NAME v_FLOAT4 v_FLOAT8 v_NUMERIC v_DATE v_TIME v_TIMESTAMP v_TIMESTAMPTZ) ?_
    show Steps p.tables e below (T277.setTop (mkF m 58 #[.val (.int p0), .val (.int p1), .val (.int p2), .val (.int kk), .val (.int (f_oid kk)), .val (.int ((f_oid kk) + (p2 % (3 : Int32)))), .val (.ref ba), .val (f_of ((f_oid kk) + (p2 % (3 : Int32))) v_BOOL v_INT2 v_INT4 v_INT8 v_TEXT v_VARCHAR v_BPCHAR v_NAME v_FLOAT4 v_FLOAT8 v_NUMERIC v_DATE v_TIME v_TIMESTAMP v_TIMESTAMPTZ), .val (f_of p0 v_BOOL v_INT2 v_INT4 v_INT8 v_TEXT v_VARCHAR v_BPCHAR v_NAME v_FLOAT4 v_FLOAT8 v_NUMERIC v_DATE v_TIME v_TIMESTAMP v_TIMESTAMPTZ), .val (f_ref (f_oid kk) v_BOOL v_INT2 v_INT4 v_INT8 v_TEXT v_VARCHAR v_BPCHAR v_NAME v_FLOAT4 v_FLOAT8 v_NUMERIC v_DATE v_TIME v_TIMESTAMP v_TIMESTAMPTZ), .unset, .unset, .unset] [(f_ref (f_oid kk) v_BOOL v_INT2 v_INT4 v_INT8 v_TEXT v_VARCHAR v_BPCHAR v_NAME v_FLOAT4 v_FLOAT8 v_NUMERIC v_DATE v_TIME v_TIMESTAMP v_TIMESTAMPTZ), (.ref ba)])) _
    refine XT.acmpNo X277.here hx rfl (hb hby at_58) rfl rfl (own_rf_f_ref (f_oid kk) v_BOOL v_INT2 v_INT4 v_INT8 v_TEXT v_VARCHAR v_BPCHAR v_NAME v_FLOAT4 v_FLOAT8 v_NUMERIC v_DATE v_TIME v_TIMESTAMP v_TIMESTAMPTZ) (XT.aa_ne_f (hba.symm.trans (own_same _ v_BOOL v_INT2 v_INT4 v_INT8 v_TEXT v_VARCHAR v_BPCHAR v_NAME v_FLOAT4 v_FLOAT8 v_NUMERIC v_DATE v_TIME v_TIMESTAMP v_TIMESTAMPTZ))) ?_
    show Steps p.tables e below (T277.setTop (mkF m 61 #[.val (.int p0), .val (.int p1), .val (.int p2), .val (.int kk), .val (.int (f_oid kk)), .val (.int ((f_oid kk) + (p2 % (3 : Int32)))), .val (.ref ba), .val (f_of ((f_oid kk) + (p2 % (3 : Int32))) v_BOOL v_INT2 v_INT4 v_INT8 v_TEXT v_VARCHAR v_BPCHAR v_NAME v_FLOAT4 v_FLOAT8 v_NUMERIC v_DATE v_TIME v_TIMESTAMP v_TIMESTAMPTZ), .val (f_of p0 v_BOOL v_INT2 v_INT4 v_INT8 v_TEXT v_VARCHAR v_BPCHAR v_NAME v_FLOAT4 v_FLOAT8 v_NUMERIC v_DATE v_TIME v_TIMESTAMP v_TIMESTAMPTZ), .val (f_ref (f_oid kk) v_BOOL v_INT2 v_INT4 v_INT8 v_TEXT v_VARCHAR v_BPCHAR v_NAME v_FLOAT4 v_FLOAT8 v_NUMERIC v_DATE v_TIME v_TIMESTAMP v_TIMESTAMPTZ), .unset, .unset, .unset] [])) _
    refine XS.aload X277.here hx rfl (hb hby at_61) rfl rfl ?_
    show Steps p.tables e below (T277.setTop (mkF m 63 #[.val (.int p0), .val (.int p1), .val (.int p2), .val (.int kk), .val (.int (f_oid kk)), .val (.int ((f_oid kk) + (p2 % (3 : Int32)))), .val (.ref ba), .val (f_of ((f_oid kk) + (p2 % (3 : Int32))) v_BOOL v_INT2 v_INT4 v_INT8 v_TEXT v_VARCHAR v_BPCHAR v_NAME v_FLOAT4 v_FLOAT8 v_NUMERIC v_DATE v_TIME v_TIMESTAMP v_TIMESTAMPTZ), .val (f_of p0 v_BOOL v_INT2 v_INT4 v_INT8 v_TEXT v_VARCHAR v_BPCHAR v_NAME v_FLOAT4 v_FLOAT8 v_NUMERIC v_DATE v_TIME v_TIMESTAMP v_TIMESTAMPTZ), .val (f_ref (f_oid kk) v_BOOL v_INT2 v_INT4 v_INT8 v_TEXT v_VARCHAR v_BPCHAR v_NAME v_FLOAT4 v_FLOAT8 v_NUMERIC v_DATE v_TIME v_TIMESTAMP v_TIMESTAMPTZ), .unset, .unset, .unset] [(.ref ba)])) _
    refine st294.trans ?_
    show Steps p.tables e below (T294.setTop (mkF m 66 #[.val (.int p0), .val (.int p1), .val (.int p2), .val (.int kk), .val (.int (f_oid kk)), .val (.int ((f_oid kk) + (p2 % (3 : Int32)))), .val (.ref ba), .val (f_of ((f_oid kk) + (p2 % (3 : Int32))) v_BOOL v_INT2 v_INT4 v_INT8 v_TEXT v_VARCHAR v_BPCHAR v_NAME v_FLOAT4 v_FLOAT8 v_NUMERIC v_DATE v_TIME v_TIMESTAMP v_TIMESTAMPTZ), .val (f_of p0 v_BOOL v_INT2 v_INT4 v_INT8 v_TEXT v_VARCHAR v_BPCHAR v_NAME v_FLOAT4 v_FLOAT8 v_NUMERIC v_DATE v_TIME v_TIMESTAMP v_TIMESTAMPTZ), .val (f_ref (f_oid kk) v_BOOL v_INT2 v_INT4 v_INT8 v_TEXT v_VARCHAR v_BPCHAR v_NAME v_FLOAT4 v_FLOAT8 v_NUMERIC v_DATE v_TIME v_TIMESTAMP v_TIMESTAMPTZ), .unset, .unset, .unset] [(.int (f_oid kk))])) _
    refine XS.iload X294.here hx rfl (hb hby at_66) rfl ?_
    show Steps p.tables e below (T294.setTop (mkF m 68 #[.val (.int p0), .val (.int p1), .val (.int p2), .val (.int kk), .val (.int (f_oid kk)), .val (.int ((f_oid kk) + (p2 % (3 : Int32)))), .val (.ref ba), .val (f_of ((f_oid kk) + (p2 % (3 : Int32))) v_BOOL v_INT2 v_INT4 v_INT8 v_TEXT v_VARCHAR v_BPCHAR v_NAME v_FLOAT4 v_FLOAT8 v_NUMERIC v_DATE v_TIME v_TIMESTAMP v_TIMESTAMPTZ), .val (f_of p0 v_BOOL v_INT2 v_INT4 v_INT8 v_TEXT v_VARCHAR v_BPCHAR v_NAME v_FLOAT4 v_FLOAT8 v_NUMERIC v_DATE v_TIME v_TIMESTAMP v_TIMESTAMPTZ), .val (f_ref (f_oid kk) v_BOOL v_INT2 v_INT4 v_INT8 v_TEXT v_VARCHAR v_BPCHAR v_NAME v_FLOAT4 v_FLOAT8 v_NUMERIC v_DATE v_TIME v_TIMESTAMP v_TIMESTAMPTZ), .unset, .unset, .unset] [(.int (f_oid kk)), (.int (f_oid kk))])) _
    refine XS.icmpNo X294.here hx rfl (hb hby at_68) rfl (XT.ii_ne_f rfl) ?_
    show Steps p.tables e below (T294.setTop (mkF m 71 #[.val (.int p0), .val (.int p1), .val (.int p2), .val (.int kk), .val (.int (f_oid kk)), .val (.int ((f_oid kk) + (p2 % (3 : Int32)))), .val (.ref ba), .val (f_of ((f_oid kk) + (p2 % (3 : Int32))) v_BOOL v_INT2 v_INT4 v_INT8 v_TEXT v_VARCHAR v_BPCHAR v_NAME v_FLOAT4 v_FLOAT8 v_NUMERIC v_DATE v_TIME v_TIMESTAMP v_TIMESTAMPTZ), .val (f_of p0 v_BOOL v_INT2 v_INT4 v_INT8 v_TEXT v_VARCHAR v_BPCHAR v_NAME v_FLOAT4 v_FLOAT8 v_NUMERIC v_DATE v_TIME v_TIMESTAMP v_TIMESTAMPTZ), .val (f_ref (f_oid kk) v_BOOL v_INT2 v_INT4 v_INT8 v_TEXT v_VARCHAR v_BPCHAR v_NAME v_FLOAT4 v_FLOAT8 v_NUMERIC v_DATE v_TIME v_TIMESTAMP v_TIMESTAMPTZ), .unset, .unset, .unset] [])) _
    refine XS.iconst X294.here hx rfl (hb hby at_71) ?_
    show Steps p.tables e below (T294.setTop (mkF m 72 #[.val (.int p0), .val (.int p1), .val (.int p2), .val (.int kk), .val (.int (f_oid kk)), .val (.int ((f_oid kk) + (p2 % (3 : Int32)))), .val (.ref ba), .val (f_of ((f_oid kk) + (p2 % (3 : Int32))) v_BOOL v_INT2 v_INT4 v_INT8 v_TEXT v_VARCHAR v_BPCHAR v_NAME v_FLOAT4 v_FLOAT8 v_NUMERIC v_DATE v_TIME v_TIMESTAMP v_TIMESTAMPTZ), .val (f_of p0 v_BOOL v_INT2 v_INT4 v_INT8 v_TEXT v_VARCHAR v_BPCHAR v_NAME v_FLOAT4 v_FLOAT8 v_NUMERIC v_DATE v_TIME v_TIMESTAMP v_TIMESTAMPTZ), .val (f_ref (f_oid kk) v_BOOL v_INT2 v_INT4 v_INT8 v_TEXT v_VARCHAR v_BPCHAR v_NAME v_FLOAT4 v_FLOAT8 v_NUMERIC v_DATE v_TIME v_TIMESTAMP v_TIMESTAMPTZ), .unset, .unset, .unset] [(.int (1 : Int32))])) _
    refine XS.goto X294.here hx rfl (pc0 := 72) (pc' := 76) rfl (hb hby at_72) (by decide) (by decide) ?_
    show Steps p.tables e below (T294.setTop (mkF m 76 #[.val (.int p0), .val (.int p1), .val (.int p2), .val (.int kk), .val (.int (f_oid kk)), .val (.int ((f_oid kk) + (p2 % (3 : Int32)))), .val (.ref ba), .val (f_of ((f_oid kk) + (p2 % (3 : Int32))) v_BOOL v_INT2 v_INT4 v_INT8 v_TEXT v_VARCHAR v_BPCHAR v_NAME v_FLOAT4 v_FLOAT8 v_NUMERIC v_DATE v_TIME v_TIMESTAMP v_TIMESTAMPTZ), .val (f_of p0 v_BOOL v_INT2 v_INT4 v_INT8 v_TEXT v_VARCHAR v_BPCHAR v_NAME v_FLOAT4 v_FLOAT8 v_NUMERIC v_DATE v_TIME v_TIMESTAMP v_TIMESTAMPTZ), .val (f_ref (f_oid kk) v_BOOL v_INT2 v_INT4 v_INT8 v_TEXT v_VARCHAR v_BPCHAR v_NAME v_FLOAT4 v_FLOAT8 v_NUMERIC v_DATE v_TIME v_TIMESTAMP v_TIMESTAMPTZ), .unset, .unset, .unset] [(.int (1 : Int32))])) _
    refine XS.istore X294.here hx rfl (hb hby at_76) rfl (l' := #[.val (.int p0), .val (.int p1), .val (.int p2), .val (.int kk), .val (.int (f_oid kk)), .val (.int ((f_oid kk) + (p2 % (3 : Int32)))), .val (.ref ba), .val (f_of ((f_oid kk) + (p2 % (3 : Int32))) v_BOOL v_INT2 v_INT4 v_INT8 v_TEXT v_VARCHAR v_BPCHAR v_NAME v_FLOAT4 v_FLOAT8 v_NUMERIC v_DATE v_TIME v_TIMESTAMP v_TIMESTAMPTZ), .val (f_of p0 v_BOOL v_INT2 v_INT4 v_INT8 v_TEXT v_VARCHAR v_BPCHAR v_NAME v_FLOAT4 v_FLOAT8 v_NUMERIC v_DATE v_TIME v_TIMESTAMP v_TIMESTAMPTZ), .val (f_ref (f_oid kk) v_BOOL v_INT2 v_INT4 v_INT8 v_TEXT v_VARCHAR v_BPCHAR v_NAME v_FLOAT4 v_FLOAT8 v_NUMERIC v_DATE v_TIME v_TIMESTAMP v_TIMESTAMPTZ), .val (.int (1 : Int32)), .unset, .unset]) rfl ?_
    show Steps p.tables e below (T294.setTop (mkF m 78 #[.val (.int p0), .val (.int p1), .val (.int p2), .val (.int kk), .val (.int (f_oid kk)), .val (.int ((f_oid kk) + (p2 % (3 : Int32)))), .val (.ref ba), .val (f_of ((f_oid kk) + (p2 % (3 : Int32))) v_BOOL v_INT2 v_INT4 v_INT8 v_TEXT v_VARCHAR v_BPCHAR v_NAME v_FLOAT4 v_FLOAT8 v_NUMERIC v_DATE v_TIME v_TIMESTAMP v_TIMESTAMPTZ), .val (f_of p0 v_BOOL v_INT2 v_INT4 v_INT8 v_TEXT v_VARCHAR v_BPCHAR v_NAME v_FLOAT4 v_FLOAT8 v_NUMERIC v_DATE v_TIME v_TIMESTAMP v_TIMESTAMPTZ), .val (f_ref (f_oid kk) v_BOOL v_INT2 v_INT4 v_INT8 v_TEXT v_VARCHAR v_BPCHAR v_NAME v_FLOAT4 v_FLOAT8 v_NUMERIC v_DATE v_TIME v_TIMESTAMP v_TIMESTAMPTZ), .val (.int (1 : Int32)), .unset, .unset] [])) _
    refine XS.aload X294.here hx rfl (hb hby at_78) rfl (own_rf_f_of ((f_oid kk) + (p2 % (3 : Int32))) v_BOOL v_INT2 v_INT4 v_INT8 v_TEXT v_VARCHAR v_BPCHAR v_NAME v_FLOAT4 v_FLOAT8 v_NUMERIC v_DATE v_TIME v_TIMESTAMP v_TIMESTAMPTZ) ?_
    show Steps p.tables e below (T294.setTop (mkF m 80 #[.val (.int p0), .val (.int p1), .val (.int p2), .val (.int kk), .val (.int (f_oid kk)), .val (.int ((f_oid kk) + (p2 % (3 : Int32)))), .val (.ref ba), .val (f_of ((f_oid kk) + (p2 % (3 : Int32))) v_BOOL v_INT2 v_INT4 v_INT8 v_TEXT v_VARCHAR v_BPCHAR v_NAME v_FLOAT4 v_FLOAT8 v_NUMERIC v_DATE v_TIME v_TIMESTAMP v_TIMESTAMPTZ), .val (f_of p0 v_BOOL v_INT2 v_INT4 v_INT8 v_TEXT v_VARCHAR v_BPCHAR v_NAME v_FLOAT4 v_FLOAT8 v_NUMERIC v_DATE v_TIME v_TIMESTAMP v_TIMESTAMPTZ), .val (f_ref (f_oid kk) v_BOOL v_INT2 v_INT4 v_INT8 v_TEXT v_VARCHAR v_BPCHAR v_NAME v_FLOAT4 v_FLOAT8 v_NUMERIC v_DATE v_TIME v_TIMESTAMP v_TIMESTAMPTZ), .val (.int (1 : Int32)), .unset, .unset] [(f_of ((f_oid kk) + (p2 % (3 : Int32))) v_BOOL v_INT2 v_INT4 v_INT8 v_TEXT v_VARCHAR v_BPCHAR v_NAME v_FLOAT4 v_FLOAT8 v_NUMERIC v_DATE v_TIME v_TIMESTAMP v_TIMESTAMPTZ)])) _
    refine XS.iload X294.here hx rfl (hb hby at_80) rfl ?_
    show Steps p.tables e below (T294.setTop (mkF m 82 #[.val (.int p0), .val (.int p1), .val (.int p2), .val (.int kk), .val (.int (f_oid kk)), .val (.int ((f_oid kk) + (p2 % (3 : Int32)))), .val (.ref ba), .val (f_of ((f_oid kk) + (p2 % (3 : Int32))) v_BOOL v_INT2 v_INT4 v_INT8 v_TEXT v_VARCHAR v_BPCHAR v_NAME v_FLOAT4 v_FLOAT8 v_NUMERIC v_DATE v_TIME v_TIMESTAMP v_TIMESTAMPTZ), .val (f_of p0 v_BOOL v_INT2 v_INT4 v_INT8 v_TEXT v_VARCHAR v_BPCHAR v_NAME v_FLOAT4 v_FLOAT8 v_NUMERIC v_DATE v_TIME v_TIMESTAMP v_TIMESTAMPTZ), .val (f_ref (f_oid kk) v_BOOL v_INT2 v_INT4 v_INT8 v_TEXT v_VARCHAR v_BPCHAR v_NAME v_FLOAT4 v_FLOAT8 v_NUMERIC v_DATE v_TIME v_TIMESTAMP v_TIMESTAMPTZ), .val (.int (1 : Int32)), .unset, .unset] [(.int ((f_oid kk) + (p2 % (3 : Int32)))), (f_of ((f_oid kk) + (p2 % (3 : Int32))) v_BOOL v_INT2 v_INT4 v_INT8 v_TEXT v_VARCHAR v_BPCHAR v_NAME v_FLOAT4 v_FLOAT8 v_NUMERIC v_DATE v_TIME v_TIMESTAMP v_TIMESTAMPTZ)])) _
    refine st296 _ ?_
    show Steps p.tables e below (T296.setTop (mkF m 85 #[.val (.int p0), .val (.int p1), .val (.int p2), .val (.int kk), .val (.int (f_oid kk)), .val (.int ((f_oid kk) + (p2 % (3 : Int32)))), .val (.ref ba), .val (f_of ((f_oid kk) + (p2 % (3 : Int32))) v_BOOL v_INT2 v_INT4 v_INT8 v_TEXT v_VARCHAR v_BPCHAR v_NAME v_FLOAT4 v_FLOAT8 v_NUMERIC v_DATE v_TIME v_TIMESTAMP v_TIMESTAMPTZ), .val (f_of p0 v_BOOL v_INT2 v_INT4 v_INT8 v_TEXT v_VARCHAR v_BPCHAR v_NAME v_FLOAT4 v_FLOAT8 v_NUMERIC v_DATE v_TIME v_TIMESTAMP v_TIMESTAMPTZ), .val (f_ref (f_oid kk) v_BOOL v_INT2 v_INT4 v_INT8 v_TEXT v_VARCHAR v_BPCHAR v_NAME v_FLOAT4 v_FLOAT8 v_NUMERIC v_DATE v_TIME v_TIMESTAMP v_TIMESTAMPTZ), .val (.int (1 : Int32)), .unset, .unset] [(f_ref ((f_oid kk) + (p2 % (3 : Int32))) v_BOOL v_INT2 v_INT4 v_INT8 v_TEXT v_VARCHAR v_BPCHAR v_NAME v_FLOAT4 v_FLOAT8 v_NUMERIC v_DATE v_TIME v_TIMESTAMP v_TIMESTAMPTZ), (f_of ((f_oid kk) + (p2 % (3 : Int32))) v_BOOL v_INT2 v_INT4 v_INT8 v_TEXT v_VARCHAR v_BPCHAR v_NAME v_FLOAT4 v_FLOAT8 v_NUMERIC v_DATE v_TIME v_TIMESTAMP v_TIMESTAMPTZ)])) _
    refine XT.acmpNo X296.here hx rfl (hb hby at_85) rfl (own_rf_f_of ((f_oid kk) + (p2 % (3 : Int32))) v_BOOL v_INT2 v_INT4 v_INT8 v_TEXT v_VARCHAR v_BPCHAR v_NAME v_FLOAT4 v_FLOAT8 v_NUMERIC v_DATE v_TIME v_TIMESTAMP v_TIMESTAMPTZ) (own_rf_f_ref ((f_oid kk) + (p2 % (3 : Int32))) v_BOOL v_INT2 v_INT4 v_INT8 v_TEXT v_VARCHAR v_BPCHAR v_NAME v_FLOAT4 v_FLOAT8 v_NUMERIC v_DATE v_TIME v_TIMESTAMP v_TIMESTAMPTZ) (XT.aa_ne_f (own_same _ v_BOOL v_INT2 v_INT4 v_INT8 v_TEXT v_VARCHAR v_BPCHAR v_NAME v_FLOAT4 v_FLOAT8 v_NUMERIC v_DATE v_TIME v_TIMESTAMP v_TIMESTAMPTZ)) ?_
    show Steps p.tables e below (T296.setTop (mkF m 88 #[.val (.int p0), .val (.int p1), .val (.int p2), .val (.int kk), .val (.int (f_oid kk)), .val (.int ((f_oid kk) + (p2 % (3 : Int32)))), .val (.ref ba), .val (f_of ((f_oid kk) + (p2 % (3 : Int32))) v_BOOL v_INT2 v_INT4 v_INT8 v_TEXT v_VARCHAR v_BPCHAR v_NAME v_FLOAT4 v_FLOAT8 v_NUMERIC v_DATE v_TIME v_TIMESTAMP v_TIMESTAMPTZ), .val (f_of p0 v_BOOL v_INT2 v_INT4 v_INT8 v_TEXT v_VARCHAR v_BPCHAR v_NAME v_FLOAT4 v_FLOAT8 v_NUMERIC v_DATE v_TIME v_TIMESTAMP v_TIMESTAMPTZ), .val (f_ref (f_oid kk) v_BOOL v_INT2 v_INT4 v_INT8 v_TEXT v_VARCHAR v_BPCHAR v_NAME v_FLOAT4 v_FLOAT8 v_NUMERIC v_DATE v_TIME v_TIMESTAMP v_TIMESTAMPTZ), .val (.int (1 : Int32)), .unset, .unset] [])) _
    refine XS.iconst X296.here hx rfl (hb hby at_88) ?_
    show Steps p.tables e below (T296.setTop (mkF m 89 #[.val (.int p0), .val (.int p1), .val (.int p2), .val (.int kk), .val (.int (f_oid kk)), .val (.int ((f_oid kk) + (p2 % (3 : Int32)))), .val (.ref ba), .val (f_of ((f_oid kk) + (p2 % (3 : Int32))) v_BOOL v_INT2 v_INT4 v_INT8 v_TEXT v_VARCHAR v_BPCHAR v_NAME v_FLOAT4 v_FLOAT8 v_NUMERIC v_DATE v_TIME v_TIMESTAMP v_TIMESTAMPTZ), .val (f_of p0 v_BOOL v_INT2 v_INT4 v_INT8 v_TEXT v_VARCHAR v_BPCHAR v_NAME v_FLOAT4 v_FLOAT8 v_NUMERIC v_DATE v_TIME v_TIMESTAMP v_TIMESTAMPTZ), .val (f_ref (f_oid kk) v_BOOL v_INT2 v_INT4 v_INT8 v_TEXT v_VARCHAR v_BPCHAR v_NAME v_FLOAT4 v_FLOAT8 v_NUMERIC v_DATE v_TIME v_TIMESTAMP v_TIMESTAMPTZ), .val (.int (1 : Int32)), .unset, .unset] [(.int (1 : Int32))])) _
    refine XS.goto X296.here hx rfl (pc0 := 89) (pc' := 93) rfl (hb hby at_89) (by decide) (by decide) ?_
    show Steps p.tables e below (T296.setTop (mkF m 93 #[.val (.int p0), .val (.int p1), .val (.int p2), .val (.int kk), .val (.int (f_oid kk)), .val (.int ((f_oid kk) + (p2 % (3 : Int32)))), .val (.ref ba), .val (f_of ((f_oid kk) + (p2 % (3 : Int32))) v_BOOL v_INT2 v_INT4 v_INT8 v_TEXT v_VARCHAR v_BPCHAR v_NAME v_FLOAT4 v_FLOAT8 v_NUMERIC v_DATE v_TIME v_TIMESTAMP v_TIMESTAMPTZ), .val (f_of p0 v_BOOL v_INT2 v_INT4 v_INT8 v_TEXT v_VARCHAR v_BPCHAR v_NAME v_FLOAT4 v_FLOAT8 v_NUMERIC v_DATE v_TIME v_TIMESTAMP v_TIMESTAMPTZ), .val (f_ref (f_oid kk) v_BOOL v_INT2 v_INT4 v_INT8 v_TEXT v_VARCHAR v_BPCHAR v_NAME v_FLOAT4 v_FLOAT8 v_NUMERIC v_DATE v_TIME v_TIMESTAMP v_TIMESTAMPTZ), .val (.int (1 : Int32)), .unset, .unset] [(.int (1 : Int32))])) _
    refine XS.istore X296.here hx rfl (hb hby at_93) rfl (l' := #[.val (.int p0), .val (.int p1), .val (.int p2), .val (.int kk), .val (.int (f_oid kk)), .val (.int ((f_oid kk) + (p2 % (3 : Int32)))), .val (.ref ba), .val (f_of ((f_oid kk) + (p2 % (3 : Int32))) v_BOOL v_INT2 v_INT4 v_INT8 v_TEXT v_VARCHAR v_BPCHAR v_NAME v_FLOAT4 v_FLOAT8 v_NUMERIC v_DATE v_TIME v_TIMESTAMP v_TIMESTAMPTZ), .val (f_of p0 v_BOOL v_INT2 v_INT4 v_INT8 v_TEXT v_VARCHAR v_BPCHAR v_NAME v_FLOAT4 v_FLOAT8 v_NUMERIC v_DATE v_TIME v_TIMESTAMP v_TIMESTAMPTZ), .val (f_ref (f_oid kk) v_BOOL v_INT2 v_INT4 v_INT8 v_TEXT v_VARCHAR v_BPCHAR v_NAME v_FLOAT4 v_FLOAT8 v_NUMERIC v_DATE v_TIME v_TIMESTAMP v_TIMESTAMPTZ), .val (.int (1 : Int32)), .val (.int (1 : Int32)), .unset]) rfl ?_
    show Steps p.tables e below (T296.setTop (mkF m 95 #[.val (.int p0), .val (.int p1), .val (.int p2), .val (.int kk), .val (.int (f_oid kk)), .val (.int ((f_oid kk) + (p2 % (3 : Int32)))), .val (.ref ba), .val (f_of ((f_oid kk) + (p2 % (3 : Int32))) v_BOOL v_INT2 v_INT4 v_INT8 v_TEXT v_VARCHAR v_BPCHAR v_NAME v_FLOAT4 v_FLOAT8 v_NUMERIC v_DATE v_TIME v_TIMESTAMP v_TIMESTAMPTZ), .val (f_of p0 v_BOOL v_INT2 v_INT4 v_INT8 v_TEXT v_VARCHAR v_BPCHAR v_NAME v_FLOAT4 v_FLOAT8 v_NUMERIC v_DATE v_TIME v_TIMESTAMP v_TIMESTAMPTZ), .val (f_ref (f_oid kk) v_BOOL v_INT2 v_INT4 v_INT8 v_TEXT v_VARCHAR v_BPCHAR v_NAME v_FLOAT4 v_FLOAT8 v_NUMERIC v_DATE v_TIME v_TIMESTAMP v_TIMESTAMPTZ), .val (.int (1 : Int32)), .val (.int (1 : Int32)), .unset] [])) _
    refine XS.aload X296.here hx rfl (hb hby at_95) rfl (own_rf_f_of p0 v_BOOL v_INT2 v_INT4 v_INT8 v_TEXT v_VARCHAR v_BPCHAR v_NAME v_FLOAT4 v_FLOAT8 v_NUMERIC v_DATE v_TIME v_TIMESTAMP v_TIMESTAMPTZ) ?_
    show Steps p.tables e below (T296.setTop (mkF m 97 #[.val (.int p0), .val (.int p1), .val (.int p2), .val (.int kk), .val (.int (f_oid kk)), .val (.int ((f_oid kk) + (p2 % (3 : Int32)))), .val (.ref ba), .val (f_of ((f_oid kk) + (p2 % (3 : Int32))) v_BOOL v_INT2 v_INT4 v_INT8 v_TEXT v_VARCHAR v_BPCHAR v_NAME v_FLOAT4 v_FLOAT8 v_NUMERIC v_DATE v_TIME v_TIMESTAMP v_TIMESTAMPTZ), .val (f_of p0 v_BOOL v_INT2 v_INT4 v_INT8 v_TEXT v_VARCHAR v_BPCHAR v_NAME v_FLOAT4 v_FLOAT8 v_NUMERIC v_DATE v_TIME v_TIMESTAMP v_TIMESTAMPTZ), .val (f_ref (f_oid kk) v_BOOL v_INT2 v_INT4 v_INT8 v_TEXT v_VARCHAR v_BPCHAR v_NAME v_FLOAT4 v_FLOAT8 v_NUMERIC v_DATE v_TIME v_TIMESTAMP v_TIMESTAMPTZ), .val (.int (1 : Int32)), .val (.int (1 : Int32)), .unset] [(f_of p0 v_BOOL v_INT2 v_INT4 v_INT8 v_TEXT v_VARCHAR v_BPCHAR v_NAME v_FLOAT4 v_FLOAT8 v_NUMERIC v_DATE v_TIME v_TIMESTAMP v_TIMESTAMPTZ)])) _
    refine XS.iloadN X296.here hx rfl (hb hby at_97) rfl ?_
    show Steps p.tables e below (T296.setTop (mkF m 98 #[.val (.int p0), .val (.int p1), .val (.int p2), .val (.int kk), .val (.int (f_oid kk)), .val (.int ((f_oid kk) + (p2 % (3 : Int32)))), .val (.ref ba), .val (f_of ((f_oid kk) + (p2 % (3 : Int32))) v_BOOL v_INT2 v_INT4 v_INT8 v_TEXT v_VARCHAR v_BPCHAR v_NAME v_FLOAT4 v_FLOAT8 v_NUMERIC v_DATE v_TIME v_TIMESTAMP v_TIMESTAMPTZ), .val (f_of p0 v_BOOL v_INT2 v_INT4 v_INT8 v_TEXT v_VARCHAR v_BPCHAR v_NAME v_FLOAT4 v_FLOAT8 v_NUMERIC v_DATE v_TIME v_TIMESTAMP v_TIMESTAMPTZ), .val (f_ref (f_oid kk) v_BOOL v_INT2 v_INT4 v_INT8 v_TEXT v_VARCHAR v_BPCHAR v_NAME v_FLOAT4 v_FLOAT8 v_NUMERIC v_DATE v_TIME v_TIMESTAMP v_TIMESTAMPTZ), .val (.int (1 : Int32)), .val (.int (1 : Int32)), .unset] [(.int p0), (f_of p0 v_BOOL v_INT2 v_INT4 v_INT8 v_TEXT v_VARCHAR v_BPCHAR v_NAME v_FLOAT4 v_FLOAT8 v_NUMERIC v_DATE v_TIME v_TIMESTAMP v_TIMESTAMPTZ)])) _
    refine st297 _ ?_
    show Steps p.tables e below (T297.setTop (mkF m 101 #[.val (.int p0), .val (.int p1), .val (.int p2), .val (.int kk), .val (.int (f_oid kk)), .val (.int ((f_oid kk) + (p2 % (3 : Int32)))), .val (.ref ba), .val (f_of ((f_oid kk) + (p2 % (3 : Int32))) v_BOOL v_INT2 v_INT4 v_INT8 v_TEXT v_VARCHAR v_BPCHAR v_NAME v_FLOAT4 v_FLOAT8 v_NUMERIC v_DATE v_TIME v_TIMESTAMP v_TIMESTAMPTZ), .val (f_of p0 v_BOOL v_INT2 v_INT4 v_INT8 v_TEXT v_VARCHAR v_BPCHAR v_NAME v_FLOAT4 v_FLOAT8 v_NUMERIC v_DATE v_TIME v_TIMESTAMP v_TIMESTAMPTZ), .val (f_ref (f_oid kk) v_BOOL v_INT2 v_INT4 v_INT8 v_TEXT v_VARCHAR v_BPCHAR v_NAME v_FLOAT4 v_FLOAT8 v_NUMERIC v_DATE v_TIME v_TIMESTAMP v_TIMESTAMPTZ), .val (.int (1 : Int32)), .val (.int (1 : Int32)), .unset] [(f_ref p0 v_BOOL v_INT2 v_INT4 v_INT8 v_TEXT v_VARCHAR v_BPCHAR v_NAME v_FLOAT4 v_FLOAT8 v_NUMERIC v_DATE v_TIME v_TIMESTAMP v_TIMESTAMPTZ), (f_of p0 v_BOOL v_INT2 v_INT4 v_INT8 v_TEXT v_VARCHAR v_BPCHAR v_NAME v_FLOAT4 v_FLOAT8 v_NUMERIC v_DATE v_TIME v_TIMESTAMP v_TIMESTAMPTZ)])) _
    refine XT.acmpNo X297.here hx rfl (hb hby at_101) rfl (own_rf_f_of p0 v_BOOL v_INT2 v_INT4 v_INT8 v_TEXT v_VARCHAR v_BPCHAR v_NAME v_FLOAT4 v_FLOAT8 v_NUMERIC v_DATE v_TIME v_TIMESTAMP v_TIMESTAMPTZ) (own_rf_f_ref p0 v_BOOL v_INT2 v_INT4 v_INT8 v_TEXT v_VARCHAR v_BPCHAR v_NAME v_FLOAT4 v_FLOAT8 v_NUMERIC v_DATE v_TIME v_TIMESTAMP v_TIMESTAMPTZ) (XT.aa_ne_f (own_same _ v_BOOL v_INT2 v_INT4 v_INT8 v_TEXT v_VARCHAR v_BPCHAR v_NAME v_FLOAT4 v_FLOAT8 v_NUMERIC v_DATE v_TIME v_TIMESTAMP v_TIMESTAMPTZ)) ?_
    show Steps p.tables e below (T297.setTop (mkF m 104 #[.val (.int p0), .val (.int p1), .val (.int p2), .val (.int kk), .val (.int (f_oid kk)), .val (.int ((f_oid kk) + (p2 % (3 : Int32)))), .val (.ref ba), .val (f_of ((f_oid kk) + (p2 % (3 : Int32))) v_BOOL v_INT2 v_INT4 v_INT8 v_TEXT v_VARCHAR v_BPCHAR v_NAME v_FLOAT4 v_FLOAT8 v_NUMERIC v_DATE v_TIME v_TIMESTAMP v_TIMESTAMPTZ), .val (f_of p0 v_BOOL v_INT2 v_INT4 v_INT8 v_TEXT v_VARCHAR v_BPCHAR v_NAME v_FLOAT4 v_FLOAT8 v_NUMERIC v_DATE v_TIME v_TIMESTAMP v_TIMESTAMPTZ), .val (f_ref (f_oid kk) v_BOOL v_INT2 v_INT4 v_INT8 v_TEXT v_VARCHAR v_BPCHAR v_NAME v_FLOAT4 v_FLOAT8 v_NUMERIC v_DATE v_TIME v_TIMESTAMP v_TIMESTAMPTZ), .val (.int (1 : Int32)), .val (.int (1 : Int32)), .unset] [])) _
    refine XS.iconst X297.here hx rfl (hb hby at_104) ?_
    show Steps p.tables e below (T297.setTop (mkF m 105 #[.val (.int p0), .val (.int p1), .val (.int p2), .val (.int kk), .val (.int (f_oid kk)), .val (.int ((f_oid kk) + (p2 % (3 : Int32)))), .val (.ref ba), .val (f_of ((f_oid kk) + (p2 % (3 : Int32))) v_BOOL v_INT2 v_INT4 v_INT8 v_TEXT v_VARCHAR v_BPCHAR v_NAME v_FLOAT4 v_FLOAT8 v_NUMERIC v_DATE v_TIME v_TIMESTAMP v_TIMESTAMPTZ), .val (f_of p0 v_BOOL v_INT2 v_INT4 v_INT8 v_TEXT v_VARCHAR v_BPCHAR v_NAME v_FLOAT4 v_FLOAT8 v_NUMERIC v_DATE v_TIME v_TIMESTAMP v_TIMESTAMPTZ), .val (f_ref (f_oid kk) v_BOOL v_INT2 v_INT4 v_INT8 v_TEXT v_VARCHAR v_BPCHAR v_NAME v_FLOAT4 v_FLOAT8 v_NUMERIC v_DATE v_TIME v_TIMESTAMP v_TIMESTAMPTZ), .val (.int (1 : Int32)), .val (.int (1 : Int32)), .unset] [(.int (1 : Int32))])) _
    refine XS.goto X297.here hx rfl (pc0 := 105) (pc' := 109) rfl (hb hby at_105) (by decide) (by decide) ?_
    show Steps p.tables e below (T297.setTop (mkF m 109 #[.val (.int p0), .val (.int p1), .val (.int p2), .val (.int kk), .val (.int (f_oid kk)), .val (.int ((f_oid kk) + (p2 % (3 : Int32)))), .val (.ref ba), .val (f_of ((f_oid kk) + (p2 % (3 : Int32))) v_BOOL v_INT2 v_INT4 v_INT8 v_TEXT v_VARCHAR v_BPCHAR v_NAME v_FLOAT4 v_FLOAT8 v_NUMERIC v_DATE v_TIME v_TIMESTAMP v_TIMESTAMPTZ), .val (f_of p0 v_BOOL v_INT2 v_INT4 v_INT8 v_TEXT v_VARCHAR v_BPCHAR v_NAME v_FLOAT4 v_FLOAT8 v_NUMERIC v_DATE v_TIME v_TIMESTAMP v_TIMESTAMPTZ), .val (f_ref (f_oid kk) v_BOOL v_INT2 v_INT4 v_INT8 v_TEXT v_VARCHAR v_BPCHAR v_NAME v_FLOAT4 v_FLOAT8 v_NUMERIC v_DATE v_TIME v_TIMESTAMP v_TIMESTAMPTZ), .val (.int (1 : Int32)), .val (.int (1 : Int32)), .unset] [(.int (1 : Int32))])) _
    refine XS.istore X297.here hx rfl (hb hby at_109) rfl (l' := #[.val (.int p0), .val (.int p1), .val (.int p2), .val (.int kk), .val (.int (f_oid kk)), .val (.int ((f_oid kk) + (p2 % (3 : Int32)))), .val (.ref ba), .val (f_of ((f_oid kk) + (p2 % (3 : Int32))) v_BOOL v_INT2 v_INT4 v_INT8 v_TEXT v_VARCHAR v_BPCHAR v_NAME v_FLOAT4 v_FLOAT8 v_NUMERIC v_DATE v_TIME v_TIMESTAMP v_TIMESTAMPTZ), .val (f_of p0 v_BOOL v_INT2 v_INT4 v_INT8 v_TEXT v_VARCHAR v_BPCHAR v_NAME v_FLOAT4 v_FLOAT8 v_NUMERIC v_DATE v_TIME v_TIMESTAMP v_TIMESTAMPTZ), .val (f_ref (f_oid kk) v_BOOL v_INT2 v_INT4 v_INT8 v_TEXT v_VARCHAR v_BPCHAR v_NAME v_FLOAT4 v_FLOAT8 v_NUMERIC v_DATE v_TIME v_TIMESTAMP v_TIMESTAMPTZ), .val (.int (1 : Int32)), .val (.int (1 : Int32)), .val (.int (1 : Int32))]) rfl ?_
    show Steps p.tables e below (T297.setTop (mkF m 111 #[.val (.int p0), .val (.int p1), .val (.int p2), .val (.int kk), .val (.int (f_oid kk)), .val (.int ((f_oid kk) + (p2 % (3 : Int32)))), .val (.ref ba), .val (f_of ((f_oid kk) + (p2 % (3 : Int32))) v_BOOL v_INT2 v_INT4 v_INT8 v_TEXT v_VARCHAR v_BPCHAR v_NAME v_FLOAT4 v_FLOAT8 v_NUMERIC v_DATE v_TIME v_TIMESTAMP v_TIMESTAMPTZ), .val (f_of p0 v_BOOL v_INT2 v_INT4 v_INT8 v_TEXT v_VARCHAR v_BPCHAR v_NAME v_FLOAT4 v_FLOAT8 v_NUMERIC v_DATE v_TIME v_TIMESTAMP v_TIMESTAMPTZ), .val (f_ref (f_oid kk) v_BOOL v_INT2 v_INT4 v_INT8 v_TEXT v_VARCHAR v_BPCHAR v_NAME v_FLOAT4 v_FLOAT8 v_NUMERIC v_DATE v_TIME v_TIMESTAMP v_TIMESTAMPTZ), .val (.int (1 : Int32)), .val (.int (1 : Int32)), .val (.int (1 : Int32))] [])) _
    refine XS.iload X297.here hx rfl (hb hby at_111) rfl ?_
    show Steps p.tables e below (T297.setTop (mkF m 113 #[.val (.int p0), .val (.int p1), .val (.int p2), .val (.int kk), .val (.int (f_oid kk)), .val (.int ((f_oid kk) + (p2 % (3 : Int32)))), .val (.ref ba), .val (f_of ((f_oid kk) + (p2 % (3 : Int32))) v_BOOL v_INT2 v_INT4 v_INT8 v_TEXT v_VARCHAR v_BPCHAR v_NAME v_FLOAT4 v_FLOAT8 v_NUMERIC v_DATE v_TIME v_TIMESTAMP v_TIMESTAMPTZ), .val (f_of p0 v_BOOL v_INT2 v_INT4 v_INT8 v_TEXT v_VARCHAR v_BPCHAR v_NAME v_FLOAT4 v_FLOAT8 v_NUMERIC v_DATE v_TIME v_TIMESTAMP v_TIMESTAMPTZ), .val (f_ref (f_oid kk) v_BOOL v_INT2 v_INT4 v_INT8 v_TEXT v_VARCHAR v_BPCHAR v_NAME v_FLOAT4 v_FLOAT8 v_NUMERIC v_DATE v_TIME v_TIMESTAMP v_TIMESTAMPTZ), .val (.int (1 : Int32)), .val (.int (1 : Int32)), .val (.int (1 : Int32))] [(.int (1 : Int32))])) _
    refine XS.ifNo X297.here hx rfl (hb hby at_113) rfl (XT.i0_eq_f (by decide)) ?_
    show Steps p.tables e below (T297.setTop (mkF m 116 #[.val (.int p0), .val (.int p1), .val (.int p2), .val (.int kk), .val (.int (f_oid kk)), .val (.int ((f_oid kk) + (p2 % (3 : Int32)))), .val (.ref ba), .val (f_of ((f_oid kk) + (p2 % (3 : Int32))) v_BOOL v_INT2 v_INT4 v_INT8 v_TEXT v_VARCHAR v_BPCHAR v_NAME v_FLOAT4 v_FLOAT8 v_NUMERIC v_DATE v_TIME v_TIMESTAMP v_TIMESTAMPTZ), .val (f_of p0 v_BOOL v_INT2 v_INT4 v_INT8 v_TEXT v_VARCHAR v_BPCHAR v_NAME v_FLOAT4 v_FLOAT8 v_NUMERIC v_DATE v_TIME v_TIMESTAMP v_TIMESTAMPTZ), .val (f_ref (f_oid kk) v_BOOL v_INT2 v_INT4 v_INT8 v_TEXT v_VARCHAR v_BPCHAR v_NAME v_FLOAT4 v_FLOAT8 v_NUMERIC v_DATE v_TIME v_TIMESTAMP v_TIMESTAMPTZ), .val (.int (1 : Int32)), .val (.int (1 : Int32)), .val (.int (1 : Int32))] [])) _
    refine XS.iload X297.here hx rfl (hb hby at_116) rfl ?_
    show Steps p.tables e below (T297.setTop (mkF m 118 #[.val (.int p0), .val (.int p1), .val (.int p2), .val (.int kk), .val (.int (f_oid kk)), .val (.int ((f_oid kk) + (p2 % (3 : Int32)))), .val (.ref ba), .val (f_of ((f_oid kk) + (p2 % (3 : Int32))) v_BOOL v_INT2 v_INT4 v_INT8 v_TEXT v_VARCHAR v_BPCHAR v_NAME v_FLOAT4 v_FLOAT8 v_NUMERIC v_DATE v_TIME v_TIMESTAMP v_TIMESTAMPTZ), .val (f_of p0 v_BOOL v_INT2 v_INT4 v_INT8 v_TEXT v_VARCHAR v_BPCHAR v_NAME v_FLOAT4 v_FLOAT8 v_NUMERIC v_DATE v_TIME v_TIMESTAMP v_TIMESTAMPTZ), .val (f_ref (f_oid kk) v_BOOL v_INT2 v_INT4 v_INT8 v_TEXT v_VARCHAR v_BPCHAR v_NAME v_FLOAT4 v_FLOAT8 v_NUMERIC v_DATE v_TIME v_TIMESTAMP v_TIMESTAMPTZ), .val (.int (1 : Int32)), .val (.int (1 : Int32)), .val (.int (1 : Int32))] [(.int (1 : Int32))])) _
    refine XS.ifNo X297.here hx rfl (hb hby at_118) rfl (XT.i0_eq_f (by decide)) ?_
    show Steps p.tables e below (T297.setTop (mkF m 121 #[.val (.int p0), .val (.int p1), .val (.int p2), .val (.int kk), .val (.int (f_oid kk)), .val (.int ((f_oid kk) + (p2 % (3 : Int32)))), .val (.ref ba), .val (f_of ((f_oid kk) + (p2 % (3 : Int32))) v_BOOL v_INT2 v_INT4 v_INT8 v_TEXT v_VARCHAR v_BPCHAR v_NAME v_FLOAT4 v_FLOAT8 v_NUMERIC v_DATE v_TIME v_TIMESTAMP v_TIMESTAMPTZ), .val (f_of p0 v_BOOL v_INT2 v_INT4 v_INT8 v_TEXT v_VARCHAR v_BPCHAR v_NAME v_FLOAT4 v_FLOAT8 v_NUMERIC v_DATE v_TIME v_TIMESTAMP v_TIMESTAMPTZ), .val (f_ref (f_oid kk) v_BOOL v_INT2 v_INT4 v_INT8 v_TEXT v_VARCHAR v_BPCHAR v_NAME v_FLOAT4 v_FLOAT8 v_NUMERIC v_DATE v_TIME v_TIMESTAMP v_TIMESTAMPTZ), .val (.int (1 : Int32)), .val (.int (1 : Int32)), .val (.int (1 : Int32))] [])) _
    refine XS.iload X297.here hx rfl (hb hby at_121) rfl ?_
    show Steps p.tables e below (T297.setTop (mkF m 123 #[.val (.int p0), .val (.int p1), .val (.int p2), .val (.int kk), .val (.int (f_oid kk)), .val (.int ((f_oid kk) + (p2 % (3 : Int32)))), .val (.ref ba), .val (f_of ((f_oid kk) + (p2 % (3 : Int32))) v_BOOL v_INT2 v_INT4 v_INT8 v_TEXT v_VARCHAR v_BPCHAR v_NAME v_FLOAT4 v_FLOAT8 v_NUMERIC v_DATE v_TIME v_TIMESTAMP v_TIMESTAMPTZ), .val (f_of p0 v_BOOL v_INT2 v_INT4 v_INT8 v_TEXT v_VARCHAR v_BPCHAR v_NAME v_FLOAT4 v_FLOAT8 v_NUMERIC v_DATE v_TIME v_TIMESTAMP v_TIMESTAMPTZ), .val (f_ref (f_oid kk) v_BOOL v_INT2 v_INT4 v_INT8 v_TEXT v_VARCHAR v_BPCHAR v_NAME v_FLOAT4 v_FLOAT8 v_NUMERIC v_DATE v_TIME v_TIMESTAMP v_TIMESTAMPTZ), .val (.int (1 : Int32)), .val (.int (1 : Int32)), .val (.int (1 : Int32))] [(.int (1 : Int32))])) _
    refine XS.ifNo X297.here hx rfl (hb hby at_123) rfl (XT.i0_eq_f (by decide)) ?_
    show Steps p.tables e below (T297.setTop (mkF m 126 #[.val (.int p0), .val (.int p1), .val (.int p2), .val (.int kk), .val (.int (f_oid kk)), .val (.int ((f_oid kk) + (p2 % (3 : Int32)))), .val (.ref ba), .val (f_of ((f_oid kk) + (p2 % (3 : Int32))) v_BOOL v_INT2 v_INT4 v_INT8 v_TEXT v_VARCHAR v_BPCHAR v_NAME v_FLOAT4 v_FLOAT8 v_NUMERIC v_DATE v_TIME v_TIMESTAMP v_TIMESTAMPTZ), .val (f_of p0 v_BOOL v_INT2 v_INT4 v_INT8 v_TEXT v_VARCHAR v_BPCHAR v_NAME v_FLOAT4 v_FLOAT8 v_NUMERIC v_DATE v_TIME v_TIMESTAMP v_TIMESTAMPTZ), .val (f_ref (f_oid kk) v_BOOL v_INT2 v_INT4 v_INT8 v_TEXT v_VARCHAR v_BPCHAR v_NAME v_FLOAT4 v_FLOAT8 v_NUMERIC v_DATE v_TIME v_TIMESTAMP v_TIMESTAMPTZ), .val (.int (1 : Int32)), .val (.int (1 : Int32)), .val (.int (1 : Int32))] [])) _
    refine XS.iconst X297.here hx rfl (hb hby at_126) ?_
    show Steps p.tables e below (T297.setTop (mkF m 127 #[.val (.int p0), .val (.int p1), .val (.int p2), .val (.int kk), .val (.int (f_oid kk)), .val (.int ((f_oid kk) + (p2 % (3 : Int32)))), .val (.ref ba), .val (f_of ((f_oid kk) + (p2 % (3 : Int32))) v_BOOL v_INT2 v_INT4 v_INT8 v_TEXT v_VARCHAR v_BPCHAR v_NAME v_FLOAT4 v_FLOAT8 v_NUMERIC v_DATE v_TIME v_TIMESTAMP v_TIMESTAMPTZ), .val (f_of p0 v_BOOL v_INT2 v_INT4 v_INT8 v_TEXT v_VARCHAR v_BPCHAR v_NAME v_FLOAT4 v_FLOAT8 v_NUMERIC v_DATE v_TIME v_TIMESTAMP v_TIMESTAMPTZ), .val (f_ref (f_oid kk) v_BOOL v_INT2 v_INT4 v_INT8 v_TEXT v_VARCHAR v_BPCHAR v_NAME v_FLOAT4 v_FLOAT8 v_NUMERIC v_DATE v_TIME v_TIMESTAMP v_TIMESTAMPTZ), .val (.int (1 : Int32)), .val (.int (1 : Int32)), .val (.int (1 : Int32))] [(.int (1 : Int32))])) _
    refine XS.goto X297.here hx rfl (pc0 := 127) (pc' := 131) rfl (hb hby at_127) (by decide) (by decide) ?_
    show Steps p.tables e below (T297.setTop (mkF m 131 #[.val (.int p0), .val (.int p1), .val (.int p2), .val (.int kk), .val (.int (f_oid kk)), .val (.int ((f_oid kk) + (p2 % (3 : Int32)))), .val (.ref ba), .val (f_of ((f_oid kk) + (p2 % (3 : Int32))) v_BOOL v_INT2 v_INT4 v_INT8 v_TEXT v_VARCHAR v_BPCHAR v_NAME v_FLOAT4 v_FLOAT8 v_NUMERIC v_DATE v_TIME v_TIMESTAMP v_TIMESTAMPTZ), .val (f_of p0 v_BOOL v_INT2 v_INT4 v_INT8 v_TEXT v_VARCHAR v_BPCHAR v_NAME v_FLOAT4 v_FLOAT8 v_NUMERIC v_DATE v_TIME v_TIMESTAMP v_TIMESTAMPTZ), .val (f_ref (f_oid kk) v_BOOL v_INT2 v_INT4 v_INT8 v_TEXT v_VARCHAR v_BPCHAR v_NAME v_FLOAT4 v_FLOAT8 v_NUMERIC v_DATE v_TIME v_TIMESTAMP v_TIMESTAMPTZ), .val (.int (1 : Int32)), .val (.int (1 : Int32)), .val (.int (1 : Int32))] [(.int (1 : Int32))])) _
    exact retN X297 hx (t := .boolean) Bd.returns (by simp) (hb hby at_131) hrT
  · show Q0 Z p0 p1 p2 kV v__VALUES v_BOOL v_INT2 v_INT4 v_INT8 v_TEXT v_VARCHAR v_BPCHAR v_NAME v_FLOAT4 v_FLOAT8 v_NUMERIC v_DATE v_TIME v_TIMESTAMP v_TIMESTAMPTZ h0 n0 _ T297.heap _
    rw [e297]
    exact ⟨rfl, N297⟩
set_option maxRecDepth 65536 in
set_option maxHeartbeats 40000000 in
theorem comes_1 {Post : Tables → Env → Array Value → State → Outcome → State → Prop} (hpost : ∀ tb e args s v u, (limb_1_1.after args s (.returned v) u = true ∧ limb_1_2.after args s (.returned v) u = true ∧ True) → FrameEnd s (.returned v) u (Jvm.fieldLocs frame_1_writes args s ++ Jvm.arrayLocs frame_1_arrays args s ++ Jvm.staticLocs frame_1_statics s) 16 192 → Post tb e args s (.returned v) u) :
    ArmFor flags0 classFile x code maxLocals ret World_1 tables_1 room_1 Calls_1 rest_1 Pre_1 Post := by
  intro l hfl _ _ p e ha hc hk s m args below hf hA hF happ hP
  obtain ⟨hcalls, hrest, hpre⟩ := hP
  obtain ⟨-, -, -, hnamed, -, -, -, hat⟩ := (Spec.applies_iff hf).mp happ
  obtain ⟨hg, hn⟩ := and_e (Cond.before_iff.mp (show (Jvm.Cond.and given_1 narrow_1).before args s = true from hpre))
  obtain ⟨gc, gr0⟩ := and_e hg
  obtain ⟨ga0, gr1⟩ := and_e gr0
  obtain ⟨ga1, gr2⟩ := and_e gr1
  have ga2 := gr2
  obtain ⟨w0, w1, w2, rfl⟩ : ∃ w0 w1 w2 : Value, args = #[w0, w1, w2] := by
    have hs : args.size = 3 := by simpa [Cond.value, given_1] using gc
    obtain ⟨L⟩ := args
    match L, hs with
    | [w0, w1, w2], _ => exact ⟨w0, w1, w2, rfl⟩
  have hw := fun d (hd : d ∈ tables_1) => atoms_spec (ws := Jvm.Cond.code x code maxLocals ret :: tables_1) hat d (List.mem_cons_of_mem _ hd)
  have hfit : Fit s := fun {y c} hc i hi => by
    obtain ⟨ha, rfl⟩ := Array.getElem?_eq_some_iff.mp hc
    have q := List.all_eq_true.mp ((Array.all_eq_true_iff_forall_mem.mp hF) _ (Array.getElem_mem ha)) i (List.mem_range.mpr hi)
    simpa [Array.getElem?_eq_getElem hi] using q
  obtain ⟨i0, ei0⟩ := is_v ga0
  obtain rfl : w0 = (.int i0) := Option.some.inj ei0
  obtain ⟨i1, ei1⟩ := is_v ga1
  obtain rfl : w1 = (.int i1) := Option.some.inj ei1
  obtain ⟨i2, ei2⟩ := is_v ga2
  obtain rfl : w2 = (.int i2) := Option.some.inj ei2
  have nr0 := hn
  obtain ⟨nn0, nr1⟩ := and_e nr0
  obtain ⟨nn1, nr2⟩ := and_e nr1
  obtain ⟨nn2, nr3⟩ := and_e nr2
  obtain ⟨nn3, nr4⟩ := and_e nr3
  obtain ⟨nn4, nr5⟩ := and_e nr4
  obtain ⟨nn5, nr6⟩ := and_e nr5
  obtain ⟨nn6, nr7⟩ := and_e nr6
  obtain ⟨nn7, nr8⟩ := and_e nr7
  obtain ⟨nn8, nr9⟩ := and_e nr8
  obtain ⟨nn9, nr10⟩ := and_e nr9
  obtain ⟨nn10, nr11⟩ := and_e nr10
  obtain ⟨nn11, nr12⟩ := and_e nr11
  obtain ⟨nn12, nr13⟩ := and_e nr12
  obtain ⟨nn13, nr14⟩ := and_e nr13
  obtain ⟨nn14, nr15⟩ := and_e nr14
  obtain ⟨nn15, nr16⟩ := and_e nr15
  obtain ⟨nn16, nr17⟩ := and_e nr16
  obtain ⟨nn17, nr18⟩ := and_e nr17
  obtain ⟨nn18, nr19⟩ := and_e nr18
  obtain ⟨nn19, nr20⟩ := and_e nr19
  obtain ⟨nn20, nr21⟩ := and_e nr20
  obtain ⟨nn21, nr22⟩ := and_e nr21
  obtain ⟨nn22, nr23⟩ := and_e nr22
  obtain ⟨nn23, nr24⟩ := and_e nr23
  obtain ⟨nn24, nr25⟩ := and_e nr24
  obtain ⟨nn25, nr26⟩ := and_e nr25
  obtain ⟨nn26, nr27⟩ := and_e nr26
  obtain ⟨nn27, nr28⟩ := and_e nr27
  obtain ⟨nn28, nr29⟩ := and_e nr28
  obtain ⟨nn29, nr30⟩ := and_e nr29
  obtain ⟨nn30, nr31⟩ := and_e nr30
  obtain ⟨nn31, nr32⟩ := and_e nr31
  obtain ⟨nn32, nr33⟩ := and_e nr32
  obtain ⟨nn33, nr34⟩ := and_e nr33
  obtain ⟨nn34, nr35⟩ := and_e nr34
  obtain ⟨nn35, nr36⟩ := and_e nr35
  obtain ⟨nn36, nr37⟩ := and_e nr36
  obtain ⟨nn37, nr38⟩ := and_e nr37
  obtain ⟨nn38, nr39⟩ := and_e nr38
  obtain ⟨nn39, nr40⟩ := and_e nr39
  obtain ⟨nn40, nr41⟩ := and_e nr40
  obtain ⟨nn41, nr42⟩ := and_e nr41
  obtain ⟨nn42, nr43⟩ := and_e nr42
  obtain ⟨nn43, nr44⟩ := and_e nr43
  obtain ⟨nn44, nr45⟩ := and_e nr44
  obtain ⟨nn45, nr46⟩ := and_e nr45
  obtain ⟨nn46, nr47⟩ := and_e nr46
  have nn47 := nr47
  obtain ⟨v__VALUES, ev__VALUES⟩ := exa_v nn1
  have Ev__VALUES := Exa.start ev__VALUES nn1
  have Sv__VALUES := Sta.start ev__VALUES (Or.inl (hw _ (List.mem_of_getElem? (i := 36) rfl)))
  obtain ⟨v_BOOL, ev_BOOL⟩ := exa_v nn3
  have Ev_BOOL := Exa.start ev_BOOL nn3
  have Sv_BOOL := Sta.start ev_BOOL (Or.inr ⟨(hw _ (List.mem_of_getElem? (i := 7) rfl)), (hw _ (List.mem_of_getElem? (i := 21) rfl))⟩)
  obtain ⟨v_INT2, ev_INT2⟩ := exa_v nn5
  have Ev_INT2 := Exa.start ev_INT2 nn5
  have Sv_INT2 := Sta.start ev_INT2 (Or.inr ⟨(hw _ (List.mem_of_getElem? (i := 7) rfl)), (hw _ (List.mem_of_getElem? (i := 22) rfl))⟩)
  obtain ⟨v_INT4, ev_INT4⟩ := exa_v nn7
  have Ev_INT4 := Exa.start ev_INT4 nn7
  have Sv_INT4 := Sta.start ev_INT4 (Or.inr ⟨(hw _ (List.mem_of_getElem? (i := 7) rfl)), (hw _ (List.mem_of_getElem? (i := 23) rfl))⟩)
  obtain ⟨v_INT8, ev_INT8⟩ := exa_v nn9
  have Ev_INT8 := Exa.start ev_INT8 nn9
  have Sv_INT8 := Sta.start ev_INT8 (Or.inr ⟨(hw _ (List.mem_of_getElem? (i := 7) rfl)), (hw _ (List.mem_of_getElem? (i := 24) rfl))⟩)
  obtain ⟨v_TEXT, ev_TEXT⟩ := exa_v nn11
  have Ev_TEXT := Exa.start ev_TEXT nn11
  have Sv_TEXT := Sta.start ev_TEXT (Or.inr ⟨(hw _ (List.mem_of_getElem? (i := 7) rfl)), (hw _ (List.mem_of_getElem? (i := 25) rfl))⟩)
  obtain ⟨v_VARCHAR, ev_VARCHAR⟩ := exa_v nn13
  have Ev_VARCHAR := Exa.start ev_VARCHAR nn13
  have Sv_VARCHAR := Sta.start ev_VARCHAR (Or.inr ⟨(hw _ (List.mem_of_getElem? (i := 7) rfl)), (hw _ (List.mem_of_getElem? (i := 26) rfl))⟩)
  obtain ⟨v_BPCHAR, ev_BPCHAR⟩ := exa_v nn15
  have Ev_BPCHAR := Exa.start ev_BPCHAR nn15
  have Sv_BPCHAR := Sta.start ev_BPCHAR (Or.inr ⟨(hw _ (List.mem_of_getElem? (i := 7) rfl)), (hw _ (List.mem_of_getElem? (i := 27) rfl))⟩)
  obtain ⟨v_NAME, ev_NAME⟩ := exa_v nn17
  have Ev_NAME := Exa.start ev_NAME nn17
  have Sv_NAME := Sta.start ev_NAME (Or.inr ⟨(hw _ (List.mem_of_getElem? (i := 7) rfl)), (hw _ (List.mem_of_getElem? (i := 28) rfl))⟩)
  obtain ⟨v_FLOAT4, ev_FLOAT4⟩ := exa_v nn19
  have Ev_FLOAT4 := Exa.start ev_FLOAT4 nn19
  have Sv_FLOAT4 := Sta.start ev_FLOAT4 (Or.inr ⟨(hw _ (List.mem_of_getElem? (i := 7) rfl)), (hw _ (List.mem_of_getElem? (i := 29) rfl))⟩)
  obtain ⟨v_FLOAT8, ev_FLOAT8⟩ := exa_v nn21
  have Ev_FLOAT8 := Exa.start ev_FLOAT8 nn21
  have Sv_FLOAT8 := Sta.start ev_FLOAT8 (Or.inr ⟨(hw _ (List.mem_of_getElem? (i := 7) rfl)), (hw _ (List.mem_of_getElem? (i := 30) rfl))⟩)
  obtain ⟨v_NUMERIC, ev_NUMERIC⟩ := exa_v nn23
  have Ev_NUMERIC := Exa.start ev_NUMERIC nn23
  have Sv_NUMERIC := Sta.start ev_NUMERIC (Or.inr ⟨(hw _ (List.mem_of_getElem? (i := 7) rfl)), (hw _ (List.mem_of_getElem? (i := 31) rfl))⟩)
  obtain ⟨v_DATE, ev_DATE⟩ := exa_v nn25
  have Ev_DATE := Exa.start ev_DATE nn25
  have Sv_DATE := Sta.start ev_DATE (Or.inr ⟨(hw _ (List.mem_of_getElem? (i := 7) rfl)), (hw _ (List.mem_of_getElem? (i := 32) rfl))⟩)
  obtain ⟨v_TIME, ev_TIME⟩ := exa_v nn27
  have Ev_TIME := Exa.start ev_TIME nn27
  have Sv_TIME := Sta.start ev_TIME (Or.inr ⟨(hw _ (List.mem_of_getElem? (i := 7) rfl)), (hw _ (List.mem_of_getElem? (i := 33) rfl))⟩)
  obtain ⟨v_TIMESTAMP, ev_TIMESTAMP⟩ := exa_v nn29
  have Ev_TIMESTAMP := Exa.start ev_TIMESTAMP nn29
  have Sv_TIMESTAMP := Sta.start ev_TIMESTAMP (Or.inr ⟨(hw _ (List.mem_of_getElem? (i := 7) rfl)), (hw _ (List.mem_of_getElem? (i := 34) rfl))⟩)
  obtain ⟨v_TIMESTAMPTZ, ev_TIMESTAMPTZ⟩ := exa_v nn31
  have Ev_TIMESTAMPTZ := Exa.start ev_TIMESTAMPTZ nn31
  have Sv_TIMESTAMPTZ := Sta.start ev_TIMESTAMPTZ (Or.inr ⟨(hw _ (List.mem_of_getElem? (i := 7) rfl)), (hw _ (List.mem_of_getElem? (i := 35) rfl))⟩)
  have Fv_BOOL_oid := own_fld ev_BOOL (Term.int_eval _) (Or.inl ⟨_, rfl⟩) nn33
  have Fv_INT2_oid := own_fld ev_INT2 (Term.int_eval _) (Or.inl ⟨_, rfl⟩) nn34
  have Fv_INT4_oid := own_fld ev_INT4 (Term.int_eval _) (Or.inl ⟨_, rfl⟩) nn35
  have Fv_INT8_oid := own_fld ev_INT8 (Term.int_eval _) (Or.inl ⟨_, rfl⟩) nn36
  have Fv_TEXT_oid := own_fld ev_TEXT (Term.int_eval _) (Or.inl ⟨_, rfl⟩) nn37
  have Fv_VARCHAR_oid := own_fld ev_VARCHAR (Term.int_eval _) (Or.inl ⟨_, rfl⟩) nn38
  have Fv_BPCHAR_oid := own_fld ev_BPCHAR (Term.int_eval _) (Or.inl ⟨_, rfl⟩) nn39
  have Fv_NAME_oid := own_fld ev_NAME (Term.int_eval _) (Or.inl ⟨_, rfl⟩) nn40
  have Fv_FLOAT4_oid := own_fld ev_FLOAT4 (Term.int_eval _) (Or.inl ⟨_, rfl⟩) nn41
  have Fv_FLOAT8_oid := own_fld ev_FLOAT8 (Term.int_eval _) (Or.inl ⟨_, rfl⟩) nn42
  have Fv_NUMERIC_oid := own_fld ev_NUMERIC (Term.int_eval _) (Or.inl ⟨_, rfl⟩) nn43
  have Fv_DATE_oid := own_fld ev_DATE (Term.int_eval _) (Or.inl ⟨_, rfl⟩) nn44
  have Fv_TIME_oid := own_fld ev_TIME (Term.int_eval _) (Or.inl ⟨_, rfl⟩) nn45
  have Fv_TIMESTAMP_oid := own_fld ev_TIMESTAMP (Term.int_eval _) (Or.inl ⟨_, rfl⟩) nn46
  have Fv_TIMESTAMPTZ_oid := own_fld ev_TIMESTAMPTZ (Term.int_eval _) (Or.inl ⟨_, rfl⟩) nn47
  obtain ⟨cV, AV⟩ := Arr.start ev__VALUES nn0
  obtain ⟨lV1, lV2⟩ := own_len ev__VALUES AV nn2
  have el0 := (elem_in (own_eqv (x := .ref v_BOOL) ev_BOOL nn4 (Or.inr (Or.inr ⟨_, rfl⟩))) ev__VALUES (Term.int_eval _) AV.1).2
  have el1 := (elem_in (own_eqv (x := .ref v_INT2) ev_INT2 nn6 (Or.inr (Or.inr ⟨_, rfl⟩))) ev__VALUES (Term.int_eval _) AV.1).2
  have el2 := (elem_in (own_eqv (x := .ref v_INT4) ev_INT4 nn8 (Or.inr (Or.inr ⟨_, rfl⟩))) ev__VALUES (Term.int_eval _) AV.1).2
  have el3 := (elem_in (own_eqv (x := .ref v_INT8) ev_INT8 nn10 (Or.inr (Or.inr ⟨_, rfl⟩))) ev__VALUES (Term.int_eval _) AV.1).2
  have el4 := (elem_in (own_eqv (x := .ref v_TEXT) ev_TEXT nn12 (Or.inr (Or.inr ⟨_, rfl⟩))) ev__VALUES (Term.int_eval _) AV.1).2
  have el5 := (elem_in (own_eqv (x := .ref v_VARCHAR) ev_VARCHAR nn14 (Or.inr (Or.inr ⟨_, rfl⟩))) ev__VALUES (Term.int_eval _) AV.1).2
  have el6 := (elem_in (own_eqv (x := .ref v_BPCHAR) ev_BPCHAR nn16 (Or.inr (Or.inr ⟨_, rfl⟩))) ev__VALUES (Term.int_eval _) AV.1).2
  have el7 := (elem_in (own_eqv (x := .ref v_NAME) ev_NAME nn18 (Or.inr (Or.inr ⟨_, rfl⟩))) ev__VALUES (Term.int_eval _) AV.1).2
  have el8 := (elem_in (own_eqv (x := .ref v_FLOAT4) ev_FLOAT4 nn20 (Or.inr (Or.inr ⟨_, rfl⟩))) ev__VALUES (Term.int_eval _) AV.1).2
  have el9 := (elem_in (own_eqv (x := .ref v_FLOAT8) ev_FLOAT8 nn22 (Or.inr (Or.inr ⟨_, rfl⟩))) ev__VALUES (Term.int_eval _) AV.1).2
  have el10 := (elem_in (own_eqv (x := .ref v_NUMERIC) ev_NUMERIC nn24 (Or.inr (Or.inr ⟨_, rfl⟩))) ev__VALUES (Term.int_eval _) AV.1).2
  have el11 := (elem_in (own_eqv (x := .ref v_DATE) ev_DATE nn26 (Or.inr (Or.inr ⟨_, rfl⟩))) ev__VALUES (Term.int_eval _) AV.1).2
  have el12 := (elem_in (own_eqv (x := .ref v_TIME) ev_TIME nn28 (Or.inr (Or.inr ⟨_, rfl⟩))) ev__VALUES (Term.int_eval _) AV.1).2
  have el13 := (elem_in (own_eqv (x := .ref v_TIMESTAMP) ev_TIMESTAMP nn30 (Or.inr (Or.inr ⟨_, rfl⟩))) ev__VALUES (Term.int_eval _) AV.1).2
  have el14 := (elem_in (own_eqv (x := .ref v_TIMESTAMPTZ) ev_TIMESTAMPTZ nn32 (Or.inr (Or.inr ⟨_, rfl⟩))) ev__VALUES (Term.int_eval _) AV.1).2
  have V0 := Arv.start (dv := .null) (vs := [(.ref v_BOOL), (.ref v_INT2), (.ref v_INT4), (.ref v_INT8), (.ref v_TEXT), (.ref v_VARCHAR), (.ref v_BPCHAR), (.ref v_NAME), (.ref v_FLOAT4), (.ref v_FLOAT8), (.ref v_NUMERIC), (.ref v_DATE), (.ref v_TIME), (.ref v_TIMESTAMP), (.ref v_TIMESTAMPTZ)]) (z := (15 : Int32)) hfit AV lV1 lV2 (by decide) rfl ⟨el0, el1, el2, el3, el4, el5, el6, el7, el8, el9, el10, el11, el12, el13, el14, trivial⟩
  obtain ⟨n, o, h1, h2, h3, _, L, rfl, ⟨rfl, N⟩, hq⟩ := rm0 l s _ hw tables_1 i0 i1 i2 cV.cls v__VALUES v_BOOL v_INT2 v_INT4 v_INT8 v_TEXT v_VARCHAR v_BPCHAR v_NAME v_FLOAT4 v_FLOAT8 v_NUMERIC v_DATE v_TIME v_TIMESTAMP v_TIMESTAMPTZ s.heap s.heap.size (Nat.le_refl _) Sv__VALUES Ev__VALUES Sv_BOOL Ev_BOOL Sv_INT2 Ev_INT2 Sv_INT4 Ev_INT4 Sv_INT8 Ev_INT8 Sv_TEXT Ev_TEXT Sv_VARCHAR Ev_VARCHAR Sv_BPCHAR Ev_BPCHAR Sv_NAME Ev_NAME Sv_FLOAT4 Ev_FLOAT4 Sv_FLOAT8 Ev_FLOAT8 Sv_NUMERIC Ev_NUMERIC Sv_DATE Ev_DATE Sv_TIME Ev_TIME Sv_TIMESTAMP Ev_TIMESTAMP Sv_TIMESTAMPTZ Ev_TIMESTAMPTZ Fv_BOOL_oid Fv_INT2_oid Fv_INT4_oid Fv_INT8_oid Fv_TEXT_oid Fv_VARCHAR_oid Fv_BPCHAR_oid Fv_NAME_oid Fv_FLOAT4_oid Fv_FLOAT8_oid Fv_NUMERIC_oid Fv_DATE_oid Fv_TIME_oid Fv_TIMESTAMP_oid Fv_TIMESTAMPTZ_oid V0 p e ha hc hk s m _ below hf ((Spec.applies_iff_loose hf).mp happ).1 ⟨rfl, State.Warmed39.refl s, rfl⟩ trivial
  refine ⟨n, _, h1, h2, h3, hpost _ _ _ _ _ _ ⟨Cond.after_iff.mpr rfl, Cond.after_iff.mpr (eq_i res_at (Term.int_eval (1)) rfl), trivial⟩ ⟨hq.1, hq.2.1, (hq.2.2.sift fun y hy => Or.inr (N y hy)).mono (by decide) (by decide)⟩⟩
theorem main_1_1 : Claimed_1_1 := comes_1 fun _ _ _ _ _ _ h hF => ⟨h.1, hF⟩
theorem main_1_2 : Claimed_1_2 := comes_1 fun _ _ _ _ _ _ h hF => ⟨h.2.1, hF⟩
end Jvm.Pilot.@@N@@
namespace Jvm.Pilot.@@N@@
open Jvm Jvm.ClassFile Sem Op Lib Jvm.Free Jvm.Stand Jvm.Pilot.@@N@@.Jvm.D
/-! MADE BY PROGRAM (witnessworld.py) out of the Statement's table words and the real class files: 13 classes; the members and pool entries that the words name. The judged class is class 1, her method 1. -/
namespace start1
open Jvm.ClassFile
def u (s : String) : CpInfo := .utf8 (stringToUtf16 s)
/-- a pool by its gaps: so many unusable entries, then the entry; so many at the end -/
def gap : Nat → List CpInfo → List CpInfo
  | 0, r => r
  | n + 1, r => .unusable :: gap n r
def poolList (es : List (Nat × CpInfo)) (last : Nat) : List CpInfo := es.foldr (fun e r => gap e.1 (e.2 :: r)) (gap last [])
def pool (es : List (Nat × CpInfo)) (last : Nat) : Array CpInfo := ⟨poolList es last⟩
def fileOf (pool : Array CpInfo) (this : Nat) (attrs : Array Attribute := #[]) (ms : Array MethodInfo := #[]) (fl : Nat := 33) (sup : Nat := 0) (ifs : Array Nat := #[]) (fds : Array FieldInfo := #[]) : ClassFile where
  minorVersion := 0
  majorVersion := 65
  constantPool := pool
  accessFlags := fl
  thisClass := this
  superClass := sup
  interfaces := ifs
  fields := fds
  methods := ms
  attributes := attrs
def plain (name : String) (sup : Option ClassId) : Class where
  name := name
  kind := .ordinary
  loader := none
  accessFlags := 33
  super := sup
  interfaces := #[]
  cf := none
  fields := #[]
  methods := #[]
  instanceTypes := #[]
  staticTypes := #[]
  resolved := #[]
  callSites := []
  init := .initialized
  statics := none
  mirror := none

def pool0 : Array CpInfo := pool [(5, u "<init>"), (0, u "()V"), (1, .class_ 10), (1, u "java/lang/Object"), (85, u "clone"), (0, u "()Ljava/lang/Object;")] 26

def k0m0 : Method := { name := "<init>", desc := "()V", sig := { parameters := [], returnType := none }, accessFlags := 1, code := none }
def k0m1 : Method := { name := "clone", desc := "()Ljava/lang/Object;", sig := { parameters := [], returnType := some (.object "java/lang/Object") }, accessFlags := 260, code := none }
/-- java/lang/Object -/
def k0 : Class := { plain "java/lang/Object" none with
  accessFlags := 33
  interfaces := #[]
  cf := some (fileOf pool0 8 #[] #[{ accessFlags := 1, nameIndex := 5, descriptorIndex := 6, attributes := #[] }, { accessFlags := 260, nameIndex := 96, descriptorIndex := 97, attributes := #[] }] 33 0 #[] #[])
  fields := #[]
  methods := #[k0m0, k0m1]
  instanceTypes := #[]
  staticTypes := #[]
  resolved := Array.replicate 124 none
  statics := none }

def pool1 : Array CpInfo := pool [(2, .class_ 4), (1, u "java/lang/Object"), (0, u "<init>"), (0, u "()V"), (0, .integer 2147483647), (0, .methodref 9 10), (0, .class_ 11), (0, .nameAndType 12 13), (0, u "com/example/gatedb/gatedb/pgwire/PgTypeOfOidPinLaw"), (0, u "oidAt"), (0, u "(I)I"), (0, .methodref 15 16), (0, .class_ 17), (0, .nameAndType 18 19), (0, u "com/example/gatedb/gatedb/pgwire/PgType"), (0, u "ofOid"), (0, u "(I)Lcom/example/gatedb/gatedb/pgwire/PgType;"), (0, .methodref 9 21), (0, .nameAndType 22 19), (0, u "ref"), (0, .methodref 15 24), (0, .nameAndType 25 26), (0, u "oid"), (0, u "()I"), (0, .fieldref 15 28), (0, .nameAndType 29 30), (0, u "BOOL"), (0, u "Lcom/example/gatedb/gatedb/pgwire/PgType;"), (0, .fieldref 15 32), (0, .nameAndType 33 30), (0, u "INT2"), (0, .fieldref 15 35), (0, .nameAndType 36 30), (0, u "INT4"), (0, .fieldref 15 38), (0, .nameAndType 39 30), (0, u "INT8"), (0, .fieldref 15 41), (0, .nameAndType 42 30), (0, u "TEXT"), (0, .fieldref 15 44), (0, .nameAndType 45 30), (0, u "VARCHAR"), (0, .fieldref 15 47), (0, .nameAndType 48 30), (0, u "BPCHAR"), (0, .fieldref 15 50), (0, .nameAndType 51 30), (0, u "NAME"), (0, .fieldref 15 53), (0, .nameAndType 54 30), (0, u "FLOAT4"), (0, .fieldref 15 56), (0, .nameAndType 57 30), (0, u "FLOAT8"), (0, .fieldref 15 59), (0, .nameAndType 60 30), (0, u "NUMERIC"), (0, .fieldref 15 62), (0, .nameAndType 63 30), (0, u "DATE"), (0, .fieldref 15 65), (0, .nameAndType 66 30), (0, u "TIME"), (0, .fieldref 15 68), (0, .nameAndType 69 30), (0, u "TIMESTAMP"), (0, .fieldref 15 71), (0, .nameAndType 72 30), (0, u "TIMESTAMPTZ"), (2, u "law"), (0, u "(III)Z")] 3

def k1m0 : Method := { name := "<init>", desc := "()V", sig := { parameters := [], returnType := none }, accessFlags := 2, code := none }
def k1c1 : Code := { maxStack := 3, maxLocals := 13, code := code, exceptionTable := #[], attributes := #[] }
def k1m1 : Method := { name := "law", desc := "(III)Z", sig := { parameters := [.int, .int, .int], returnType := some .boolean }, accessFlags := 9, code := some k1c1 }
def k1c2 : Code := { maxStack := 2, maxLocals := 1, code := method_3_code, exceptionTable := #[], attributes := #[] }
def k1m2 : Method := { name := "oidAt", desc := "(I)I", sig := { parameters := [.int], returnType := some .int }, accessFlags := 10, code := some k1c2 }
def k1c3 : Code := { maxStack := 2, maxLocals := 1, code := method_4_code, exceptionTable := #[], attributes := #[] }
def k1m3 : Method := { name := "ref", desc := "(I)Lcom/example/gatedb/gatedb/pgwire/PgType;", sig := { parameters := [.int], returnType := some (.object "com/example/gatedb/gatedb/pgwire/PgType") }, accessFlags := 10, code := some k1c3 }
/-- com/example/gatedb/gatedb/pgwire/PgTypeOfOidPinLaw -/
def k1 : Class := { plain "com/example/gatedb/gatedb/pgwire/PgTypeOfOidPinLaw" (some 0) with
  accessFlags := 49
  interfaces := #[]
  cf := some (fileOf pool1 9 #[] #[{ accessFlags := 2, nameIndex := 5, descriptorIndex := 6, attributes := #[] }, { accessFlags := 9, nameIndex := 75, descriptorIndex := 76, attributes := #[] }, { accessFlags := 10, nameIndex := 12, descriptorIndex := 13, attributes := #[] }, { accessFlags := 10, nameIndex := 22, descriptorIndex := 19, attributes := #[] }] 49 2 #[] #[])
  fields := #[]
  methods := #[k1m0, k1m1, k1m2, k1m3]
  instanceTypes := #[]
  staticTypes := #[]
  resolved := Array.replicate 80 none
  statics := none }

def pool2 : Array CpInfo := pool [(1, .class_ 2), (0, u "java/lang/constant/Constable"), (0, .class_ 4), (0, u "java/lang/Object")] 6

/-- java/lang/constant/Constable -/
def k2 : Class := { plain "java/lang/constant/Constable" (some 0) with
  accessFlags := 1537
  interfaces := #[]
  cf := some (fileOf pool2 1 #[] #[] 1537 3 #[] #[])
  fields := #[]
  methods := #[]
  instanceTypes := #[]
  staticTypes := #[]
  resolved := Array.replicate 11 none
  statics := none }

def pool3 : Array CpInfo := pool [(1, .class_ 2), (0, u "java/lang/Comparable"), (0, .class_ 4), (0, u "java/lang/Object")] 7

/-- java/lang/Comparable -/
def k3 : Class := { plain "java/lang/Comparable" (some 0) with
  accessFlags := 1537
  interfaces := #[]
  cf := some (fileOf pool3 1 #[] #[] 1537 3 #[] #[])
  fields := #[]
  methods := #[]
  instanceTypes := #[]
  staticTypes := #[]
  resolved := Array.replicate 12 none
  statics := none }

def pool4 : Array CpInfo := pool [(1, .class_ 2), (0, u "java/io/Serializable"), (0, .class_ 4), (0, u "java/lang/Object")] 2

/-- java/io/Serializable -/
def k4 : Class := { plain "java/io/Serializable" (some 0) with
  accessFlags := 1537
  interfaces := #[]
  cf := some (fileOf pool4 1 #[] #[] 1537 3 #[] #[])
  fields := #[]
  methods := #[]
  instanceTypes := #[]
  staticTypes := #[]
  resolved := Array.replicate 7 none
  statics := none }

def pool5 : Array CpInfo := pool [(2, .class_ 4), (1, u "java/lang/Enum"), (0, u "name"), (0, u "Ljava/lang/String;"), (2, u "ordinal"), (0, u "I"), (1, .class_ 14), (1, u "java/lang/Object"), (4, u "hash"), (86, .class_ 108), (1, u "java/lang/Enum$EnumDesc"), (2, .class_ 112), (0, u "java/lang/constant/Constable"), (0, .class_ 114), (0, u "java/lang/Comparable"), (0, .class_ 116), (0, u "java/io/Serializable")] 87

/-- java/lang/Enum -/
def k5 : Class := { plain "java/lang/Enum" (some 0) with
  accessFlags := 1057
  interfaces := #[2, 3, 4]
  cf := some (fileOf pool5 2 #[.nestMembers #[106]] #[] 1057 12 #[111, 113, 115] #[{ accessFlags := 18, nameIndex := 5, descriptorIndex := 6, attributes := #[] }, { accessFlags := 18, nameIndex := 9, descriptorIndex := 10, attributes := #[] }, { accessFlags := 2, nameIndex := 19, descriptorIndex := 10, attributes := #[] }])
  fields := #[{ name := "name", type := (.object "java/lang/String"), accessFlags := 18, slot := 0, constantValue := 0 }, { name := "ordinal", type := .int, accessFlags := 18, slot := 1, constantValue := 0 }, { name := "hash", type := .int, accessFlags := 2, slot := 2, constantValue := 0 }]
  methods := #[]
  instanceTypes := #[(.object "java/lang/String"), .int, .int]
  staticTypes := #[]
  resolved := Array.replicate 204 none
  statics := none }

def pool6 : Array CpInfo := pool [(1, .class_ 2), (0, u "com/example/gatedb/gatedb/pgwire/PgType"), (2, u "BOOL"), (0, u "Lcom/example/gatedb/gatedb/pgwire/PgType;"), (2, u "INT2"), (2, u "INT4"), (2, u "INT8"), (2, u "TEXT"), (2, u "VARCHAR"), (2, u "BPCHAR"), (2, u "NAME"), (2, u "FLOAT4"), (2, u "FLOAT8"), (2, u "NUMERIC"), (2, u "DATE"), (2, u "TIME"), (2, u "TIMESTAMP"), (2, u "TIMESTAMPTZ"), (0, .fieldref 1 50), (0, .nameAndType 51 52), (0, u "$VALUES"), (0, u "[Lcom/example/gatedb/gatedb/pgwire/PgType;"), (0, .methodref 54 55), (0, .class_ 52), (0, .nameAndType 56 57), (0, u "clone"), (0, u "()Ljava/lang/Object;"), (1, .class_ 61), (1, u "java/lang/Enum"), (6, .fieldref 1 69), (0, .nameAndType 70 71), (0, u "oid"), (0, u "I"), (2, u "size"), (2, u "sqlName"), (0, u "Ljava/lang/String;"), (1, .class_ 82), (1, u "com/example/gatedb/gatedb/pgwire/PgType$1"), (13, u "()I"), (21, .methodref 1 119), (0, .nameAndType 120 121), (0, u "values"), (0, u "()[Lcom/example/gatedb/gatedb/pgwire/PgType;"), (232, u "ofOid"), (0, u "(I)Lcom/example/gatedb/gatedb/pgwire/PgType;")] 33

def k6c0 : Code := { maxStack := 1, maxLocals := 0, code := prog_41_method_1_code, exceptionTable := #[], attributes := #[] }
def k6m0 : Method := { name := "values", desc := "()[Lcom/example/gatedb/gatedb/pgwire/PgType;", sig := { parameters := [], returnType := some (.array (.object "com/example/gatedb/gatedb/pgwire/PgType")) }, accessFlags := 9, code := some k6c0 }
def k6c1 : Code := { maxStack := 2, maxLocals := 6, code := prog_41_method_6_code, exceptionTable := #[], attributes := #[] }
def k6m1 : Method := { name := "ofOid", desc := "(I)Lcom/example/gatedb/gatedb/pgwire/PgType;", sig := { parameters := [.int], returnType := some (.object "com/example/gatedb/gatedb/pgwire/PgType") }, accessFlags := 8, code := some k6c1 }
def k6c2 : Code := { maxStack := 1, maxLocals := 1, code := prog_41_method_7_code, exceptionTable := #[], attributes := #[] }
def k6m2 : Method := { name := "oid", desc := "()I", sig := { parameters := [], returnType := some .int }, accessFlags := 0, code := some k6c2 }
/-- com/example/gatedb/gatedb/pgwire/PgType -/
def k6 : Class := { plain "com/example/gatedb/gatedb/pgwire/PgType" (some 5) with
  accessFlags := 16432
  interfaces := #[]
  cf := some (fileOf pool6 1 #[.nestMembers #[80]] #[{ accessFlags := 9, nameIndex := 120, descriptorIndex := 121, attributes := #[] }, { accessFlags := 8, nameIndex := 354, descriptorIndex := 355, attributes := #[] }, { accessFlags := 0, nameIndex := 70, descriptorIndex := 96, attributes := #[] }] 16432 59 #[] #[{ accessFlags := 16409, nameIndex := 5, descriptorIndex := 6, attributes := #[] }, { accessFlags := 16409, nameIndex := 9, descriptorIndex := 6, attributes := #[] }, { accessFlags := 16409, nameIndex := 12, descriptorIndex := 6, attributes := #[] }, { accessFlags := 16409, nameIndex := 15, descriptorIndex := 6, attributes := #[] }, { accessFlags := 16409, nameIndex := 18, descriptorIndex := 6, attributes := #[] }, { accessFlags := 16409, nameIndex := 21, descriptorIndex := 6, attributes := #[] }, { accessFlags := 16409, nameIndex := 24, descriptorIndex := 6, attributes := #[] }, { accessFlags := 16409, nameIndex := 27, descriptorIndex := 6, attributes := #[] }, { accessFlags := 16409, nameIndex := 30, descriptorIndex := 6, attributes := #[] }, { accessFlags := 16409, nameIndex := 33, descriptorIndex := 6, attributes := #[] }, { accessFlags := 16409, nameIndex := 36, descriptorIndex := 6, attributes := #[] }, { accessFlags := 16409, nameIndex := 39, descriptorIndex := 6, attributes := #[] }, { accessFlags := 16409, nameIndex := 42, descriptorIndex := 6, attributes := #[] }, { accessFlags := 16409, nameIndex := 45, descriptorIndex := 6, attributes := #[] }, { accessFlags := 16409, nameIndex := 48, descriptorIndex := 6, attributes := #[] }, { accessFlags := 18, nameIndex := 70, descriptorIndex := 71, attributes := #[] }, { accessFlags := 18, nameIndex := 74, descriptorIndex := 71, attributes := #[] }, { accessFlags := 18, nameIndex := 77, descriptorIndex := 78, attributes := #[] }, { accessFlags := 4122, nameIndex := 51, descriptorIndex := 52, attributes := #[] }])
  fields := #[{ name := "BOOL", type := (.object "com/example/gatedb/gatedb/pgwire/PgType"), accessFlags := 16409, slot := 0, constantValue := 0 }, { name := "INT2", type := (.object "com/example/gatedb/gatedb/pgwire/PgType"), accessFlags := 16409, slot := 1, constantValue := 0 }, { name := "INT4", type := (.object "com/example/gatedb/gatedb/pgwire/PgType"), accessFlags := 16409, slot := 2, constantValue := 0 }, { name := "INT8", type := (.object "com/example/gatedb/gatedb/pgwire/PgType"), accessFlags := 16409, slot := 3, constantValue := 0 }, { name := "TEXT", type := (.object "com/example/gatedb/gatedb/pgwire/PgType"), accessFlags := 16409, slot := 4, constantValue := 0 }, { name := "VARCHAR", type := (.object "com/example/gatedb/gatedb/pgwire/PgType"), accessFlags := 16409, slot := 5, constantValue := 0 }, { name := "BPCHAR", type := (.object "com/example/gatedb/gatedb/pgwire/PgType"), accessFlags := 16409, slot := 6, constantValue := 0 }, { name := "NAME", type := (.object "com/example/gatedb/gatedb/pgwire/PgType"), accessFlags := 16409, slot := 7, constantValue := 0 }, { name := "FLOAT4", type := (.object "com/example/gatedb/gatedb/pgwire/PgType"), accessFlags := 16409, slot := 8, constantValue := 0 }, { name := "FLOAT8", type := (.object "com/example/gatedb/gatedb/pgwire/PgType"), accessFlags := 16409, slot := 9, constantValue := 0 }, { name := "NUMERIC", type := (.object "com/example/gatedb/gatedb/pgwire/PgType"), accessFlags := 16409, slot := 10, constantValue := 0 }, { name := "DATE", type := (.object "com/example/gatedb/gatedb/pgwire/PgType"), accessFlags := 16409, slot := 11, constantValue := 0 }, { name := "TIME", type := (.object "com/example/gatedb/gatedb/pgwire/PgType"), accessFlags := 16409, slot := 12, constantValue := 0 }, { name := "TIMESTAMP", type := (.object "com/example/gatedb/gatedb/pgwire/PgType"), accessFlags := 16409, slot := 13, constantValue := 0 }, { name := "TIMESTAMPTZ", type := (.object "com/example/gatedb/gatedb/pgwire/PgType"), accessFlags := 16409, slot := 14, constantValue := 0 }, { name := "oid", type := .int, accessFlags := 18, slot := 3, constantValue := 0 }, { name := "size", type := .int, accessFlags := 18, slot := 4, constantValue := 0 }, { name := "sqlName", type := (.object "java/lang/String"), accessFlags := 18, slot := 5, constantValue := 0 }, { name := "$VALUES", type := (.array (.object "com/example/gatedb/gatedb/pgwire/PgType")), accessFlags := 4122, slot := 15, constantValue := 0 }]
  methods := #[k6m0, k6m1, k6m2]
  instanceTypes := #[(.object "java/lang/String"), .int, .int, .int, .int, (.object "java/lang/String")]
  staticTypes := #[(.object "com/example/gatedb/gatedb/pgwire/PgType"), (.object "com/example/gatedb/gatedb/pgwire/PgType"), (.object "com/example/gatedb/gatedb/pgwire/PgType"), (.object "com/example/gatedb/gatedb/pgwire/PgType"), (.object "com/example/gatedb/gatedb/pgwire/PgType"), (.object "com/example/gatedb/gatedb/pgwire/PgType"), (.object "com/example/gatedb/gatedb/pgwire/PgType"), (.object "com/example/gatedb/gatedb/pgwire/PgType"), (.object "com/example/gatedb/gatedb/pgwire/PgType"), (.object "com/example/gatedb/gatedb/pgwire/PgType"), (.object "com/example/gatedb/gatedb/pgwire/PgType"), (.object "com/example/gatedb/gatedb/pgwire/PgType"), (.object "com/example/gatedb/gatedb/pgwire/PgType"), (.object "com/example/gatedb/gatedb/pgwire/PgType"), (.object "com/example/gatedb/gatedb/pgwire/PgType"), (.array (.object "com/example/gatedb/gatedb/pgwire/PgType"))]
  resolved := Array.replicate 389 none
  statics := some 0 }

def pool7 : Array CpInfo := pool [(1, .class_ 2), (0, u "java/lang/Cloneable"), (0, .class_ 4), (0, u "java/lang/Object")] 2

/-- java/lang/Cloneable -/
def k7 : Class := { plain "java/lang/Cloneable" (some 0) with
  accessFlags := 1537
  interfaces := #[]
  cf := some (fileOf pool7 1 #[] #[] 1537 3 #[] #[])
  fields := #[]
  methods := #[]
  instanceTypes := #[]
  staticTypes := #[]
  resolved := Array.replicate 7 none
  statics := none }

/-- the primitive byte -/
def k8 : Class := { plain "byte" none with kind := .primitive 'B', accessFlags := 0x411 }
/-- [B -/
def k9 : Class := { plain "[B" (some 0) with kind := .array 8 .byte, interfaces := #[7, 4], accessFlags := 1041 }

/-- the primitive int -/
def k10 : Class := { plain "int" none with kind := .primitive 'I', accessFlags := 0x411 }
/-- [I -/
def k11 : Class := { plain "[I" (some 0) with kind := .array 10 .int, interfaces := #[7, 4], accessFlags := 1041 }

/-- [Lcom/example/gatedb/gatedb/pgwire/PgType; -/
def k12 : Class := { plain "[Lcom/example/gatedb/gatedb/pgwire/PgType;" (some 0) with kind := .array 6 (.object "com/example/gatedb/gatedb/pgwire/PgType"), interfaces := #[7, 4], accessFlags := 1041 }

def heap : Heap := #[{ cls := 6, slots := #[.ref 2, .ref 3, .ref 4, .ref 5, .ref 6, .ref 7, .ref 8, .ref 9, .ref 10, .ref 11, .ref 12, .ref 13, .ref 14, .ref 15, .ref 16, .ref 1], vm := .statics 6 },
  { cls := 12, slots := #[.ref 2, .ref 3, .ref 4, .ref 5, .ref 6, .ref 7, .ref 8, .ref 9, .ref 10, .ref 11, .ref 12, .ref 13, .ref 14, .ref 15, .ref 16], vm := .none },
  { cls := 6, slots := #[.null, .int 0, .int 0, .int 16, .int 0, .null], vm := .none },
  { cls := 6, slots := #[.null, .int 0, .int 0, .int 21, .int 0, .null], vm := .none },
  { cls := 6, slots := #[.null, .int 0, .int 0, .int 23, .int 0, .null], vm := .none },
  { cls := 6, slots := #[.null, .int 0, .int 0, .int 20, .int 0, .null], vm := .none },
  { cls := 6, slots := #[.null, .int 0, .int 0, .int 25, .int 0, .null], vm := .none },
  { cls := 6, slots := #[.null, .int 0, .int 0, .int 1043, .int 0, .null], vm := .none },
  { cls := 6, slots := #[.null, .int 0, .int 0, .int 1042, .int 0, .null], vm := .none },
  { cls := 6, slots := #[.null, .int 0, .int 0, .int 19, .int 0, .null], vm := .none },
  { cls := 6, slots := #[.null, .int 0, .int 0, .int 700, .int 0, .null], vm := .none },
  { cls := 6, slots := #[.null, .int 0, .int 0, .int 701, .int 0, .null], vm := .none },
  { cls := 6, slots := #[.null, .int 0, .int 0, .int 1700, .int 0, .null], vm := .none },
  { cls := 6, slots := #[.null, .int 0, .int 0, .int 1082, .int 0, .null], vm := .none },
  { cls := 6, slots := #[.null, .int 0, .int 0, .int 1083, .int 0, .null], vm := .none },
  { cls := 6, slots := #[.null, .int 0, .int 0, .int 1114, .int 0, .null], vm := .none },
  { cls := 6, slots := #[.null, .int 0, .int 0, .int 1184, .int 0, .null], vm := .none }]
def classes : Array Class := #[k0, k1, k2, k3, k4, k5, k6, k7, k8, k9, k10, k11, k12]
def interned : List (Array UInt16 × Addr) := []
def slotsUsed : Nat := 121
def theMethod : MethodId := ⟨1, 1⟩
def args0 : Array Value := #[.int 77, .int 99, .int 3]
def aboutOver (below : List Frame) : State where
  vm := { classes := classes, interned := interned.toArray }
  heap := heap
  slotsUsed := slotsUsed
  threads := #[{ frames := .invoking theMethod args0 :: below }]
def below0 : List Frame := [.native { method := ⟨0, 0⟩, args := #[] }]
def about1 : State := aboutOver below0
def p0 : Program := .bare "" "" ""
def e0 : Env := launch0.env 0 0 0
theorem w_frames : about1.frames = Frame.invoking theMethod args0 :: below0 := rfl
set_option maxRecDepth 65536 in
theorem w_args : argsFit about1.vm theMethod args0 = true := by decide +kernel
set_option maxRecDepth 65536 in
theorem w_heap : heapFits about1 = true := by decide +kernel
set_option maxRecDepth 65536 in
theorem w_runnable : about1.curStatus? = some .runnable := by decide +kernel
set_option maxRecDepth 65536 in
theorem w_alone : about1.alone = true := by decide +kernel
set_option maxRecDepth 65536 in
theorem w_named : about1.methodNamed? x = some theMethod := by decide +kernel
set_option maxRecDepth 65536 in
theorem w_hears : about1.hears theMethod below0 = true := by decide +kernel
set_option maxRecDepth 65536 in
theorem w_ripe : about1.ripe theMethod args0 below0 = true := by decide +kernel
theorem w_running : about1.status = .running := rfl
set_option maxRecDepth 65536 in
theorem w_room : about1.hasRoom e0.platform room_1 = true :=
  launch0.hasRoom_least _ room_1 (by decide +kernel) (by decide +kernel) (by decide +kernel) (by decide +kernel) (by decide +kernel) (by decide +kernel)
theorem allAtoms_all (ts : List Jvm.Cond) (a : Array Jvm.Value) (st : Jvm.State) : (allAtoms ts).before a st = ts.all (fun c => c.before a st) := by
  induction ts with
  | nil => rfl
  | cons c t ih =>
    show (Jvm.Cond.and c (allAtoms t)).before a st = _
    rw [Jvm.Cond.before_and, ih, List.all_cons]
def words1 : List Jvm.Cond := Jvm.Cond.code x code maxLocals ret :: tables_1
/-- a 'code' word, met by the world's own term for the bytes: nothing is compared byte by byte -/
theorem code_word {y : MethodName} {bytes : ByteArray} {mx : Nat} {rt : Option FieldType} {a : Array Value} {s : State} {m : MethodId} {meth : Method} {c : Code} (h1 : s.methodNamed? y = some m) (h2 : s.vm.method? m = some meth) (h3 : meth.code = some c) (h4 : c.code = bytes)
    (h5 : (c.maxLocals == mx && c.exceptionTable.isEmpty && decide (c.maxStack ≤ mostOperands) && decide (meth.sig.returnType = rt) && !meth.locks && decide (parseMethodDescriptor y.desc = some meth.sig)) = true) : (Jvm.Cond.code y bytes mx rt).before a s = true := by
  simp only [Bool.and_eq_true, beq_iff_eq, Bool.not_eq_true', decide_eq_true_eq] at h5
  obtain ⟨⟨⟨⟨⟨g1, g2⟩, g3⟩, g4⟩, g5⟩, g6⟩ := h5
  simp [Cond.before, Cond.holds, Cond.value, h1, h2, h3, h4, g1, g2, g3, g4, g5, g6]
def isCode : Jvm.Cond → Bool
  | .code _ _ _ _ => true
  | _ => false
theorem all_split {L : List Jvm.Cond} {P : Jvm.Cond → Bool} (h1 : L.all (fun c => isCode c || P c) = true) (h2 : ∀ c ∈ L.filter isCode, P c = true) : L.all P = true := by
  refine List.all_eq_true.mpr fun c hc => ?_
  have h := List.all_eq_true.mp h1 c hc
  rcases Bool.eq_false_or_eq_true (isCode c) with hi | hi
  · exact h2 c (List.mem_filter.mpr ⟨hc, hi⟩)
  · simpa [hi] using h
set_option maxRecDepth 65536 in
theorem w_c0 : (Jvm.Cond.code x code maxLocals ret).before args0 about1 = true := code_word (m := ⟨1, 1⟩) (meth := k1m1) (c := k1c1) (by decide +kernel) rfl rfl rfl (by decide +kernel)
set_option maxRecDepth 65536 in
theorem w_c1 : (Jvm.Cond.code ({ cls := "com/example/gatedb/gatedb/pgwire/PgTypeOfOidPinLaw", name := "oidAt", desc := "(I)I" } : Jvm.MethodName) method_3_code (1 : Nat) (Option.some Jvm.ClassFile.FieldType.int)).before args0 about1 = true := code_word (m := ⟨1, 2⟩) (meth := k1m2) (c := k1c2) (by decide +kernel) rfl rfl rfl (by decide +kernel)
set_option maxRecDepth 65536 in
theorem w_c2 : (Jvm.Cond.code ({ cls := "com/example/gatedb/gatedb/pgwire/PgType", name := "ofOid", desc := "(I)Lcom/example/gatedb/gatedb/pgwire/PgType;" } : Jvm.MethodName) prog_41_method_6_code (6 : Nat) (Option.some (Jvm.ClassFile.FieldType.object "com/example/gatedb/gatedb/pgwire/PgType"))).before args0 about1 = true := code_word (m := ⟨6, 1⟩) (meth := k6m1) (c := k6c1) (by decide +kernel) rfl rfl rfl (by decide +kernel)
set_option maxRecDepth 65536 in
theorem w_c3 : (Jvm.Cond.code ({ cls := "com/example/gatedb/gatedb/pgwire/PgType", name := "values", desc := "()[Lcom/example/gatedb/gatedb/pgwire/PgType;" } : Jvm.MethodName) prog_41_method_1_code (0 : Nat) (Option.some (Jvm.ClassFile.FieldType.array (Jvm.ClassFile.FieldType.object "com/example/gatedb/gatedb/pgwire/PgType")))).before args0 about1 = true := code_word (m := ⟨6, 0⟩) (meth := k6m0) (c := k6c0) (by decide +kernel) rfl rfl rfl (by decide +kernel)
set_option maxRecDepth 65536 in
theorem w_c4 : (Jvm.Cond.code ({ cls := "com/example/gatedb/gatedb/pgwire/PgTypeOfOidPinLaw", name := "ref", desc := "(I)Lcom/example/gatedb/gatedb/pgwire/PgType;" } : Jvm.MethodName) method_4_code (1 : Nat) (Option.some (Jvm.ClassFile.FieldType.object "com/example/gatedb/gatedb/pgwire/PgType"))).before args0 about1 = true := code_word (m := ⟨1, 3⟩) (meth := k1m3) (c := k1c3) (by decide +kernel) rfl rfl rfl (by decide +kernel)
set_option maxRecDepth 65536 in
theorem w_c5 : (Jvm.Cond.code ({ cls := "com/example/gatedb/gatedb/pgwire/PgType", name := "oid", desc := "()I" } : Jvm.MethodName) prog_41_method_7_code (1 : Nat) (Option.some Jvm.ClassFile.FieldType.int)).before args0 about1 = true := code_word (m := ⟨6, 2⟩) (meth := k6m2) (c := k6c2) (by decide +kernel) rfl rfl rfl (by decide +kernel)
def codes1 : List Jvm.Cond := [Jvm.Cond.code x code maxLocals ret, Jvm.Cond.code ({ cls := "com/example/gatedb/gatedb/pgwire/PgTypeOfOidPinLaw", name := "oidAt", desc := "(I)I" } : Jvm.MethodName) method_3_code (1 : Nat) (Option.some Jvm.ClassFile.FieldType.int), Jvm.Cond.code ({ cls := "com/example/gatedb/gatedb/pgwire/PgType", name := "ofOid", desc := "(I)Lcom/example/gatedb/gatedb/pgwire/PgType;" } : Jvm.MethodName) prog_41_method_6_code (6 : Nat) (Option.some (Jvm.ClassFile.FieldType.object "com/example/gatedb/gatedb/pgwire/PgType")), Jvm.Cond.code ({ cls := "com/example/gatedb/gatedb/pgwire/PgType", name := "values", desc := "()[Lcom/example/gatedb/gatedb/pgwire/PgType;" } : Jvm.MethodName) prog_41_method_1_code (0 : Nat) (Option.some (Jvm.ClassFile.FieldType.array (Jvm.ClassFile.FieldType.object "com/example/gatedb/gatedb/pgwire/PgType"))), Jvm.Cond.code ({ cls := "com/example/gatedb/gatedb/pgwire/PgTypeOfOidPinLaw", name := "ref", desc := "(I)Lcom/example/gatedb/gatedb/pgwire/PgType;" } : Jvm.MethodName) method_4_code (1 : Nat) (Option.some (Jvm.ClassFile.FieldType.object "com/example/gatedb/gatedb/pgwire/PgType")), Jvm.Cond.code ({ cls := "com/example/gatedb/gatedb/pgwire/PgType", name := "oid", desc := "()I" } : Jvm.MethodName) prog_41_method_7_code (1 : Nat) (Option.some Jvm.ClassFile.FieldType.int)]
set_option maxRecDepth 65536 in
theorem codes_eq : words1.filter isCode = codes1 := rfl
theorem w_codes : ∀ c ∈ words1.filter isCode, c.before args0 about1 = true := by
  rw [codes_eq]
  intro c hc
  simp only [codes1, List.mem_cons, List.not_mem_nil, or_false] at hc
  rcases hc with rfl | rfl | rfl | rfl | rfl | rfl
  · exact w_c0
  · exact w_c1
  · exact w_c2
  · exact w_c3
  · exact w_c4
  · exact w_c5
set_option maxRecDepth 65536 in
theorem w_t1 : (words1.take 24).all (fun c => isCode c || c.before args0 about1) = true := by decide +kernel
set_option maxRecDepth 65536 in
theorem w_t2 : ((words1.drop 24).take 24).all (fun c => isCode c || c.before args0 about1) = true := by decide +kernel
set_option maxRecDepth 65536 in
theorem w_t3 : ((words1.drop 24).drop 24).all (fun c => isCode c || c.before args0 about1) = true := by decide +kernel
theorem w_tables : (allAtoms (Jvm.Cond.code x code maxLocals ret :: tables_1)).before args0 about1 = true := by
  rw [allAtoms_all]
  show words1.all (fun c => c.before args0 about1) = true
  refine all_split ?_ w_codes
  rw [← List.take_append_drop 24 words1, List.all_append, w_t1, ← List.take_append_drop 24 (words1.drop 24), List.all_append, w_t2, w_t3]
  rfl
set_option maxRecDepth 65536 in
theorem w_case : (Jvm.Cond.and given_1 narrow_1).before args0 about1 = true := by decide +kernel
theorem w_applies : (headSpec (Jvm.Cond.code x code maxLocals ret :: tables_1) room_1).applies x e0.platform about1 = true :=
  (Spec.applies_iff w_frames).mpr ⟨w_running, w_runnable, w_alone, w_named, w_hears, w_ripe, w_room, w_tables⟩
theorem atStart : AtStart classFile x code maxLocals ret World_1 tables_1 room_1 Calls_1 rest_1 Pre_1 launch0 p0 e0 about1 theMethod args0 below0 :=
  ⟨lists_1, trivial, launch0.admits_env _ _ _, launch0.least_env, fairChoices_fair.cas, fairChoices_fair.clock, w_frames, w_args, w_heap, w_applies, trivial, trivial, w_case⟩
end start1
theorem witness_1 : WitnessClaimed_1 := ⟨start1.p0, start1.e0, start1.about1, start1.theMethod, start1.args0, start1.below0, start1.atStart⟩
end Jvm.Pilot.@@N@@
