import JvmDerived
import JvmDerived.Pilot.@@N@@Statement
import JvmDerived.Pilot.@@N@@Code
set_option linter.unusedVariables false
set_option linter.unusedSimpArgs false
namespace Jvm.RoadKit
open Sem ClassFile Op Lib Jvm.Stand Jvm.Free Jvm.LawKit
section New
variable {p : Program} {l : Launch} {e : Env} {R : Room} {s : State} {m : MethodId} {args : Array Value} {below : List Frame} {meth : Method} {c : Code} {T : State} {locs : List Loc} {cells slots : Nat}
theorem retI (X : Stand p l e R s m args below meth c T locs cells slots) (hx : p.tables.exec = Jvm.exec) {pc : Nat} {Ls : Array Slot} {z : Int32} {rest : List Value} (hret : meth.sig.returnType = some .int) (hd : decode c.code pc = .ok (.ireturn, 1)) {fs : List Frame}
    (hl : ∀ (f : JFrame) (acts : List Action), f.method = m → f.locked = none → f.entered = [] → (doReturn e (T.setTop f) acts (some (.int z))).1 = T.setFrames fs) : Steps p.tables e below (T.setTop (mkF m pc Ls (.int z :: rest))) (T.setFrames fs) := by
  have hm' : T.vm.method? m = some meth := X.method'
  have hn : narrow .int (.int z) = .int z := rfl
  show Steps p.tables e below (T.setTop { method := m, pc := pc, locals := Ls, stack := _ :: rest, locked := none }) _
  jvm_step X.here [X.here.top, hx, hd, hm', hret, hn]
  first | (intro acts; rw [hl _ acts rfl rfl rfl]) | rw [hl _ _ rfl rfl rfl]
  exact Steps.refl _
end New
end Jvm.RoadKit
@@BLOCK:NumsL.lean.txt@@
namespace Jvm.Pilot.@@N@@
open Jvm Jvm.ClassFile Sem Op Lib Jvm.Free Jvm.Stand Jvm.LawKit Jvm.RoadKit Bundle Jvm.Pilot.@@N@@.Jvm.D
theorem own_eqv {args : Array Value} {s : State} {a b : Term} {x v : Value} (hb : b.eval args s none [] s = some v) (h : (Jvm.Cond.eq a b).value args s none s [] = some true) (hv : (∃ k, v = .int k) ∨ v = .null ∨ ∃ r, v = .ref r) : a.eval args s none [] s = some v := by
  obtain ⟨x, y, h1, h2, -, -⟩ := cmp_v (Or.inl h)
  cases hb.symm.trans h2
  rw [h1]
  rcases hv with ⟨k, rfl⟩ | rfl | ⟨r, rfl⟩ <;> cases x <;> simp [Cond.value, h1, hb] at h ⊢ <;> exact h
theorem own_fld {args : Array Value} {s : State} {t u : Term} {C n d : String} {b : Addr} {v : Value} (ev : t.eval args s none [] s = some (.ref b)) (hb : u.eval args s none [] s = some v) (hv : (∃ k, v = .int k) ∨ v = .null ∨ ∃ r, v = .ref r) (h : (Jvm.Cond.eq (.field t C n d) u).value args s none s [] = some true) : Fld s s.heap b C n d v := by
  have e := own_eqv (x := v) hb h hv
  rw [fld_at ev] at e
  exact Fld.start e
theorem own_uniq {Z : State} {h : Heap} {a : Addr} {C n d : String} {v w : Value} (F : Fld Z h a C n d v) (G : Fld Z h a C n d w) : v = w := by
  obtain ⟨c1, cf1, k1, i1, f1, a1, a2, -, -, -, -, a7⟩ := F
  obtain ⟨c2, cf2, k2, i2, f2, b1, b2, -, -, -, -, b7⟩ := G
  cases a1.symm.trans b1
  cases a2.symm.trans b2
  exact Option.some.inj (a7.symm.trans b7)
theorem own_apart {Z : State} {h : Heap} {a b : Addr} {C n d : String} {v w : Value} (F : Fld Z h a C n d v) (G : Fld Z h b C n d w) (q : v ≠ w) : a ≠ b := fun e => q (own_uniq F (e ▸ G))

theorem d1_0 : decode method_3_code 0 = .ok (.iload_n 0, 1) := by decide +kernel
theorem d1_1 : decode method_3_code 1 = .ok (.ifCond .ne 5, 3) := by decide +kernel
theorem d1_4 : decode method_3_code 4 = .ok (.iconst 3, 1) := by decide +kernel
theorem d1_5 : decode method_3_code 5 = .ok (.ireturn, 1) := by decide +kernel
theorem d1_6 : decode method_3_code 6 = .ok (.iload_n 0, 1) := by decide +kernel
theorem d1_7 : decode method_3_code 7 = .ok (.iconst 1, 1) := by decide +kernel
theorem d1_8 : decode method_3_code 8 = .ok (.if_icmp .ne 5, 3) := by decide +kernel
theorem d1_11 : decode method_3_code 11 = .ok (.iconst 4, 1) := by decide +kernel
theorem d1_12 : decode method_3_code 12 = .ok (.ireturn, 1) := by decide +kernel
theorem d1_13 : decode method_3_code 13 = .ok (.iload_n 0, 1) := by decide +kernel
theorem d1_14 : decode method_3_code 14 = .ok (.iconst 2, 1) := by decide +kernel
theorem d1_15 : decode method_3_code 15 = .ok (.if_icmp .ne 5, 3) := by decide +kernel
theorem d1_18 : decode method_3_code 18 = .ok (.iconst 1, 1) := by decide +kernel
theorem d1_19 : decode method_3_code 19 = .ok (.ireturn, 1) := by decide +kernel
theorem d1_20 : decode method_3_code 20 = .ok (.iload_n 0, 1) := by decide +kernel
theorem d1_21 : decode method_3_code 21 = .ok (.iconst 3, 1) := by decide +kernel
theorem d1_22 : decode method_3_code 22 = .ok (.if_icmp .ne 5, 3) := by decide +kernel
theorem d1_25 : decode method_3_code 25 = .ok (.iconst 0, 1) := by decide +kernel
theorem d1_26 : decode method_3_code 26 = .ok (.ireturn, 1) := by decide +kernel
theorem d1_27 : decode method_3_code 27 = .ok (.iload_n 0, 1) := by decide +kernel
theorem d1_28 : decode method_3_code 28 = .ok (.iconst 4, 1) := by decide +kernel
theorem d1_29 : decode method_3_code 29 = .ok (.if_icmp .ne 5, 3) := by decide +kernel
theorem d1_32 : decode method_3_code 32 = .ok (.iconst 0, 1) := by decide +kernel
theorem d1_33 : decode method_3_code 33 = .ok (.ireturn, 1) := by decide +kernel
theorem d1_34 : decode method_3_code 34 = .ok (.iload_n 0, 1) := by decide +kernel
theorem d1_35 : decode method_3_code 35 = .ok (.iconst 5, 1) := by decide +kernel
theorem d1_36 : decode method_3_code 36 = .ok (.if_icmp .ne 5, 3) := by decide +kernel
theorem d1_39 : decode method_3_code 39 = .ok (.iconst 5, 1) := by decide +kernel
theorem d1_40 : decode method_3_code 40 = .ok (.ireturn, 1) := by decide +kernel
theorem d1_41 : decode method_3_code 41 = .ok (.iload_n 0, 1) := by decide +kernel
theorem d1_42 : decode method_3_code 42 = .ok (.bipush 6, 2) := by decide +kernel
theorem d1_44 : decode method_3_code 44 = .ok (.if_icmp .ne 5, 3) := by decide +kernel
theorem d1_47 : decode method_3_code 47 = .ok (.iconst 0, 1) := by decide +kernel
theorem d1_48 : decode method_3_code 48 = .ok (.ireturn, 1) := by decide +kernel
theorem d1_49 : decode method_3_code 49 = .ok (.iload_n 0, 1) := by decide +kernel
theorem d1_50 : decode method_3_code 50 = .ok (.bipush 7, 2) := by decide +kernel
theorem d1_52 : decode method_3_code 52 = .ok (.if_icmp .lt 11, 3) := by decide +kernel
theorem d1_63 : decode method_3_code 63 = .ok (.iconst 0, 1) := by decide +kernel
theorem d1_64 : decode method_3_code 64 = .ok (.ireturn, 1) := by decide +kernel
theorem d1_55 : decode method_3_code 55 = .ok (.iload_n 0, 1) := by decide +kernel
theorem d1_56 : decode method_3_code 56 = .ok (.bipush 10, 2) := by decide +kernel
theorem d1_58 : decode method_3_code 58 = .ok (.if_icmp .gt 5, 3) := by decide +kernel
theorem d1_61 : decode method_3_code 61 = .ok (.iconst 1, 1) := by decide +kernel
theorem d1_62 : decode method_3_code 62 = .ok (.ireturn, 1) := by decide +kernel
theorem pn_ApiKeyServesPinLaw : plainName "com/example/sluice/sluice/protocol/ApiKeyServesPinLaw" = true := by first | (simp [plainName, overriddenIn]; done) | decide +kernel
def f_lo (p0 : Int32) : Int32 := (if p0 = 0 then (3 : Int32) else (if p0 = (1 : Int32) then (4 : Int32) else (if p0 = (2 : Int32) then (1 : Int32) else (if p0 = (3 : Int32) then (0 : Int32) else (if p0 = (4 : Int32) then (0 : Int32) else (if p0 = (5 : Int32) then (5 : Int32) else (if p0 = (6 : Int32) then (0 : Int32) else (if p0 < (7 : Int32) then (0 : Int32) else (if (10 : Int32) < p0 then (0 : Int32) else (1 : Int32))))))))))
theorem ef1 (m : MethodId) (x0 : Int32) : entryFrame m #[(.int x0)] 1 = mkF m 0 #[.val (.int x0)] [] := by first | (simp [entryFrame, mkF, argsToLocals, Value.category]; done) | rfl
def Q1 (Z : State) (p0 : Int32) (h0 : Heap) (n0 : Nat) (v : Option Value) (h : Heap) (L : List Loc) : Prop := v = some (.int (f_lo p0)) ∧ Fr n0 L ∧ h = h0
set_option maxRecDepth 65536 in
set_option maxHeartbeats 40000000 in
theorem rm1 (l : Launch) (Z : State) (a0 : Array Value) (hw : ∀ d ∈ tables_1, d.before a0 Z = true) (ws : List Jvm.Cond) (p0 : Int32) (h0 : Heap) (n0 : Nat) (Z0 : n0 ≤ h0.size) :
    MetFree l (⟨"com/example/sluice/sluice/protocol/ApiKeyServesPinLaw", "lo", "(I)I"⟩ : MethodName) (head1 (Jvm.Cond.code (⟨"com/example/sluice/sluice/protocol/ApiKeyServesPinLaw", "lo", "(I)I"⟩ : MethodName) method_3_code 1 (some .int) :: ws) ({ frames := 0, cells := 0, slots := 0, locals := 0 } : Room)) (fun a U => a = #[(.int p0)] ∧ Z.Warmed39 U.vm ∧ U.heap = h0) (fun _ _ _ _ _ => True) (fun _ U o U' => ∃ v L, o = .returned v ∧ Q1 Z p0 h0 n0 v U'.heap L ∧ FrameEnd U o U' L ({ frames := 0, cells := 0, slots := 0, locals := 0 } : Room).cells ({ frames := 0, cells := 0, slots := 0, locals := 0 } : Room).slots) := by
  refine MetFree.of_bodySF (plainFor_of_name pn_ApiKeyServesPinLaw) hisR ?_
  intro p e s m args below meth c s₁ Bd hml0 hP hK
  obtain ⟨rfl, hZ, hh⟩ := hP
  have hx := Bd.exec
  have hby := Bd.bytes
  have hml : c.maxLocals = 1 := hml0
  have hown : s.vm.findClass "com/example/sluice/sluice/protocol/ApiKeyServesPinLaw" = some m.cls := findClass_of_methodNamed Bd.named
  have hnm := (name_of_methodNamed Bd.named Bd.method).1
  have X0 : Stand p l e ({ frames := 0, cells := 0, slots := 0, locals := 0 } : Room) s m #[(.int p0)] below meth c s₁ [] 0 0 := Stand.of_body Bd
  have e0 : s₁.heap = h0 := by rw [← hh, Bd.state]; rfl
  have N0 := Fr.nil n0
  have pre0 : ∀ t, Steps p.tables e below (s₁.setTop (mkF m 0 #[.val (.int p0)] [])) t → Steps p.tables e below (s₁.setTop (entryFrame m #[(.int p0)] 1)) t := fun t k => castTop (ef1 m p0) k
  have S1 : ∀ t, Steps p.tables e below (s₁.setTop (mkF m 1 #[.val (.int p0)] [(.int p0)])) t → Steps p.tables e below (s₁.setTop (entryFrame m #[(.int p0)] 1)) t := by
    intro t kt
    refine pre0 _ ?_
    show Steps p.tables e below (s₁.setTop (mkF m 0 #[.val (.int p0)] [])) _
    refine XS.iloadN X0.here hx rfl (hb hby d1_0) rfl ?_
    exact kt
  by_cases hc1_2 : p0 = 0
  case pos =>
    obtain ⟨fs, hrT, hrunT, hendT, hWT, hsameT⟩ := X0.leave (v := some (.int (3 : Int32))) (fun h => by rw [Bd.returns] at h; cases h)
    refine ⟨_, _, S1 _ ?_, hrunT, hendT, _, _, rfl, ?_, ⟨_, rfl⟩, hWT, hsameT.mono (by decide) (by decide)⟩
    · show Steps p.tables e below (s₁.setTop (mkF m 1 #[.val (.int p0)] [(.int p0)])) _
      refine XS.ifNo X0.here hx rfl (hb hby d1_1) rfl (XT.i0_ne_f hc1_2) ?_
      show Steps p.tables e below (s₁.setTop (mkF m 4 #[.val (.int p0)] [])) _
      refine XS.iconst X0.here hx rfl (hb hby d1_4) ?_
      show Steps p.tables e below (s₁.setTop (mkF m 5 #[.val (.int p0)] [(.int (3 : Int32))])) _
      exact retI X0 hx Bd.returns (hb hby d1_5) hrT
    · show Q1 Z p0 h0 n0 _ s₁.heap _
      rw [e0]
      have hv : f_lo p0 = (3 : Int32) := by unfold f_lo; rw [if_pos hc1_2]
      exact ⟨(congrArg (fun z => some (Value.int z)) hv.symm), N0, rfl⟩
  case neg =>
    have S3 : ∀ t, Steps p.tables e below (s₁.setTop (mkF m 8 #[.val (.int p0)] [(.int (1 : Int32)), (.int p0)])) t → Steps p.tables e below (s₁.setTop (entryFrame m #[(.int p0)] 1)) t := by
      intro t kt
      refine S1 _ ?_
      show Steps p.tables e below (s₁.setTop (mkF m 1 #[.val (.int p0)] [(.int p0)])) _
      refine XS.ifYes X0.here hx rfl (pc0 := 1) (pc' := 6) rfl (hb hby d1_1) rfl (XT.i0_ne_t hc1_2) (by decide) (by decide) ?_
      show Steps p.tables e below (s₁.setTop (mkF m 6 #[.val (.int p0)] [])) _
      refine XS.iloadN X0.here hx rfl (hb hby d1_6) rfl ?_
      show Steps p.tables e below (s₁.setTop (mkF m 7 #[.val (.int p0)] [(.int p0)])) _
      refine XS.iconst X0.here hx rfl (hb hby d1_7) ?_
      exact kt
    by_cases hc8_4 : p0 = (1 : Int32)
    case pos =>
      obtain ⟨fs, hrT, hrunT, hendT, hWT, hsameT⟩ := X0.leave (v := some (.int (4 : Int32))) (fun h => by rw [Bd.returns] at h; cases h)
      refine ⟨_, _, S3 _ ?_, hrunT, hendT, _, _, rfl, ?_, ⟨_, rfl⟩, hWT, hsameT.mono (by decide) (by decide)⟩
      · show Steps p.tables e below (s₁.setTop (mkF m 8 #[.val (.int p0)] [(.int (1 : Int32)), (.int p0)])) _
        refine XS.icmpNo X0.here hx rfl (hb hby d1_8) rfl (XT.ii_ne_f hc8_4) ?_
        show Steps p.tables e below (s₁.setTop (mkF m 11 #[.val (.int p0)] [])) _
        refine XS.iconst X0.here hx rfl (hb hby d1_11) ?_
        show Steps p.tables e below (s₁.setTop (mkF m 12 #[.val (.int p0)] [(.int (4 : Int32))])) _
        exact retI X0 hx Bd.returns (hb hby d1_12) hrT
      · show Q1 Z p0 h0 n0 _ s₁.heap _
        rw [e0]
        have hv : f_lo p0 = (4 : Int32) := by unfold f_lo; rw [if_neg hc1_2]; rw [if_pos hc8_4]
        exact ⟨(congrArg (fun z => some (Value.int z)) hv.symm), N0, rfl⟩
    case neg =>
      have S5 : ∀ t, Steps p.tables e below (s₁.setTop (mkF m 15 #[.val (.int p0)] [(.int (2 : Int32)), (.int p0)])) t → Steps p.tables e below (s₁.setTop (entryFrame m #[(.int p0)] 1)) t := by
        intro t kt
        refine S3 _ ?_
        show Steps p.tables e below (s₁.setTop (mkF m 8 #[.val (.int p0)] [(.int (1 : Int32)), (.int p0)])) _
        refine XS.icmpYes X0.here hx rfl (pc0 := 8) (pc' := 13) rfl (hb hby d1_8) rfl (XT.ii_ne_t hc8_4) (by decide) (by decide) ?_
        show Steps p.tables e below (s₁.setTop (mkF m 13 #[.val (.int p0)] [])) _
        refine XS.iloadN X0.here hx rfl (hb hby d1_13) rfl ?_
        show Steps p.tables e below (s₁.setTop (mkF m 14 #[.val (.int p0)] [(.int p0)])) _
        refine XS.iconst X0.here hx rfl (hb hby d1_14) ?_
        exact kt
      by_cases hc15_6 : p0 = (2 : Int32)
      case pos =>
        obtain ⟨fs, hrT, hrunT, hendT, hWT, hsameT⟩ := X0.leave (v := some (.int (1 : Int32))) (fun h => by rw [Bd.returns] at h; cases h)
        refine ⟨_, _, S5 _ ?_, hrunT, hendT, _, _, rfl, ?_, ⟨_, rfl⟩, hWT, hsameT.mono (by decide) (by decide)⟩
        · show Steps p.tables e below (s₁.setTop (mkF m 15 #[.val (.int p0)] [(.int (2 : Int32)), (.int p0)])) _
          refine XS.icmpNo X0.here hx rfl (hb hby d1_15) rfl (XT.ii_ne_f hc15_6) ?_
          show Steps p.tables e below (s₁.setTop (mkF m 18 #[.val (.int p0)] [])) _
          refine XS.iconst X0.here hx rfl (hb hby d1_18) ?_
          show Steps p.tables e below (s₁.setTop (mkF m 19 #[.val (.int p0)] [(.int (1 : Int32))])) _
          exact retI X0 hx Bd.returns (hb hby d1_19) hrT
        · show Q1 Z p0 h0 n0 _ s₁.heap _
          rw [e0]
          have hv : f_lo p0 = (1 : Int32) := by unfold f_lo; rw [if_neg hc1_2]; rw [if_neg hc8_4]; rw [if_pos hc15_6]
          exact ⟨(congrArg (fun z => some (Value.int z)) hv.symm), N0, rfl⟩
      case neg =>
        have S7 : ∀ t, Steps p.tables e below (s₁.setTop (mkF m 22 #[.val (.int p0)] [(.int (3 : Int32)), (.int p0)])) t → Steps p.tables e below (s₁.setTop (entryFrame m #[(.int p0)] 1)) t := by
          intro t kt
          refine S5 _ ?_
          show Steps p.tables e below (s₁.setTop (mkF m 15 #[.val (.int p0)] [(.int (2 : Int32)), (.int p0)])) _
          refine XS.icmpYes X0.here hx rfl (pc0 := 15) (pc' := 20) rfl (hb hby d1_15) rfl (XT.ii_ne_t hc15_6) (by decide) (by decide) ?_
          show Steps p.tables e below (s₁.setTop (mkF m 20 #[.val (.int p0)] [])) _
          refine XS.iloadN X0.here hx rfl (hb hby d1_20) rfl ?_
          show Steps p.tables e below (s₁.setTop (mkF m 21 #[.val (.int p0)] [(.int p0)])) _
          refine XS.iconst X0.here hx rfl (hb hby d1_21) ?_
          exact kt
        by_cases hc22_8 : p0 = (3 : Int32)
        case pos =>
          obtain ⟨fs, hrT, hrunT, hendT, hWT, hsameT⟩ := X0.leave (v := some (.int (0 : Int32))) (fun h => by rw [Bd.returns] at h; cases h)
          refine ⟨_, _, S7 _ ?_, hrunT, hendT, _, _, rfl, ?_, ⟨_, rfl⟩, hWT, hsameT.mono (by decide) (by decide)⟩
          · show Steps p.tables e below (s₁.setTop (mkF m 22 #[.val (.int p0)] [(.int (3 : Int32)), (.int p0)])) _
            refine XS.icmpNo X0.here hx rfl (hb hby d1_22) rfl (XT.ii_ne_f hc22_8) ?_
            show Steps p.tables e below (s₁.setTop (mkF m 25 #[.val (.int p0)] [])) _
            refine XS.iconst X0.here hx rfl (hb hby d1_25) ?_
            show Steps p.tables e below (s₁.setTop (mkF m 26 #[.val (.int p0)] [(.int (0 : Int32))])) _
            exact retI X0 hx Bd.returns (hb hby d1_26) hrT
          · show Q1 Z p0 h0 n0 _ s₁.heap _
            rw [e0]
            have hv : f_lo p0 = (0 : Int32) := by unfold f_lo; rw [if_neg hc1_2]; rw [if_neg hc8_4]; rw [if_neg hc15_6]; rw [if_pos hc22_8]
            exact ⟨(congrArg (fun z => some (Value.int z)) hv.symm), N0, rfl⟩
        case neg =>
          have S9 : ∀ t, Steps p.tables e below (s₁.setTop (mkF m 29 #[.val (.int p0)] [(.int (4 : Int32)), (.int p0)])) t → Steps p.tables e below (s₁.setTop (entryFrame m #[(.int p0)] 1)) t := by
            intro t kt
            refine S7 _ ?_
            show Steps p.tables e below (s₁.setTop (mkF m 22 #[.val (.int p0)] [(.int (3 : Int32)), (.int p0)])) _
            refine XS.icmpYes X0.here hx rfl (pc0 := 22) (pc' := 27) rfl (hb hby d1_22) rfl (XT.ii_ne_t hc22_8) (by decide) (by decide) ?_
            show Steps p.tables e below (s₁.setTop (mkF m 27 #[.val (.int p0)] [])) _
            refine XS.iloadN X0.here hx rfl (hb hby d1_27) rfl ?_
            show Steps p.tables e below (s₁.setTop (mkF m 28 #[.val (.int p0)] [(.int p0)])) _
            refine XS.iconst X0.here hx rfl (hb hby d1_28) ?_
            exact kt
          by_cases hc29_10 : p0 = (4 : Int32)
          case pos =>
            obtain ⟨fs, hrT, hrunT, hendT, hWT, hsameT⟩ := X0.leave (v := some (.int (0 : Int32))) (fun h => by rw [Bd.returns] at h; cases h)
            refine ⟨_, _, S9 _ ?_, hrunT, hendT, _, _, rfl, ?_, ⟨_, rfl⟩, hWT, hsameT.mono (by decide) (by decide)⟩
            · show Steps p.tables e below (s₁.setTop (mkF m 29 #[.val (.int p0)] [(.int (4 : Int32)), (.int p0)])) _
              refine XS.icmpNo X0.here hx rfl (hb hby d1_29) rfl (XT.ii_ne_f hc29_10) ?_
              show Steps p.tables e below (s₁.setTop (mkF m 32 #[.val (.int p0)] [])) _
              refine XS.iconst X0.here hx rfl (hb hby d1_32) ?_
              show Steps p.tables e below (s₁.setTop (mkF m 33 #[.val (.int p0)] [(.int (0 : Int32))])) _
              exact retI X0 hx Bd.returns (hb hby d1_33) hrT
            · show Q1 Z p0 h0 n0 _ s₁.heap _
              rw [e0]
              have hv : f_lo p0 = (0 : Int32) := by unfold f_lo; rw [if_neg hc1_2]; rw [if_neg hc8_4]; rw [if_neg hc15_6]; rw [if_neg hc22_8]; rw [if_pos hc29_10]
              exact ⟨(congrArg (fun z => some (Value.int z)) hv.symm), N0, rfl⟩
          case neg =>
            have S11 : ∀ t, Steps p.tables e below (s₁.setTop (mkF m 36 #[.val (.int p0)] [(.int (5 : Int32)), (.int p0)])) t → Steps p.tables e below (s₁.setTop (entryFrame m #[(.int p0)] 1)) t := by
              intro t kt
              refine S9 _ ?_
              show Steps p.tables e below (s₁.setTop (mkF m 29 #[.val (.int p0)] [(.int (4 : Int32)), (.int p0)])) _
              refine XS.icmpYes X0.here hx rfl (pc0 := 29) (pc' := 34) rfl (hb hby d1_29) rfl (XT.ii_ne_t hc29_10) (by decide) (by decide) ?_
              show Steps p.tables e below (s₁.setTop (mkF m 34 #[.val (.int p0)] [])) _
              refine XS.iloadN X0.here hx rfl (hb hby d1_34) rfl ?_
              show Steps p.tables e below (s₁.setTop (mkF m 35 #[.val (.int p0)] [(.int p0)])) _
              refine XS.iconst X0.here hx rfl (hb hby d1_35) ?_
              exact kt
            by_cases hc36_12 : p0 = (5 : Int32)
            case pos =>
              obtain ⟨fs, hrT, hrunT, hendT, hWT, hsameT⟩ := X0.leave (v := some (.int (5 : Int32))) (fun h => by rw [Bd.returns] at h; cases h)
              refine ⟨_, _, S11 _ ?_, hrunT, hendT, _, _, rfl, ?_, ⟨_, rfl⟩, hWT, hsameT.mono (by decide) (by decide)⟩
              · show Steps p.tables e below (s₁.setTop (mkF m 36 #[.val (.int p0)] [(.int (5 : Int32)), (.int p0)])) _
                refine XS.icmpNo X0.here hx rfl (hb hby d1_36) rfl (XT.ii_ne_f hc36_12) ?_
                show Steps p.tables e below (s₁.setTop (mkF m 39 #[.val (.int p0)] [])) _
                refine XS.iconst X0.here hx rfl (hb hby d1_39) ?_
                show Steps p.tables e below (s₁.setTop (mkF m 40 #[.val (.int p0)] [(.int (5 : Int32))])) _
                exact retI X0 hx Bd.returns (hb hby d1_40) hrT
              · show Q1 Z p0 h0 n0 _ s₁.heap _
                rw [e0]
                have hv : f_lo p0 = (5 : Int32) := by unfold f_lo; rw [if_neg hc1_2]; rw [if_neg hc8_4]; rw [if_neg hc15_6]; rw [if_neg hc22_8]; rw [if_neg hc29_10]; rw [if_pos hc36_12]
                exact ⟨(congrArg (fun z => some (Value.int z)) hv.symm), N0, rfl⟩
            case neg =>
              have S13 : ∀ t, Steps p.tables e below (s₁.setTop (mkF m 44 #[.val (.int p0)] [(.int (6 : Int32)), (.int p0)])) t → Steps p.tables e below (s₁.setTop (entryFrame m #[(.int p0)] 1)) t := by
                intro t kt
                refine S11 _ ?_
                show Steps p.tables e below (s₁.setTop (mkF m 36 #[.val (.int p0)] [(.int (5 : Int32)), (.int p0)])) _
                refine XS.icmpYes X0.here hx rfl (pc0 := 36) (pc' := 41) rfl (hb hby d1_36) rfl (XT.ii_ne_t hc36_12) (by decide) (by decide) ?_
                show Steps p.tables e below (s₁.setTop (mkF m 41 #[.val (.int p0)] [])) _
                refine XS.iloadN X0.here hx rfl (hb hby d1_41) rfl ?_
                show Steps p.tables e below (s₁.setTop (mkF m 42 #[.val (.int p0)] [(.int p0)])) _
                refine XS.bipush X0.here hx rfl (hb hby d1_42) ?_
                exact kt
              by_cases hc44_14 : p0 = (6 : Int32)
              case pos =>
                obtain ⟨fs, hrT, hrunT, hendT, hWT, hsameT⟩ := X0.leave (v := some (.int (0 : Int32))) (fun h => by rw [Bd.returns] at h; cases h)
                refine ⟨_, _, S13 _ ?_, hrunT, hendT, _, _, rfl, ?_, ⟨_, rfl⟩, hWT, hsameT.mono (by decide) (by decide)⟩
                · show Steps p.tables e below (s₁.setTop (mkF m 44 #[.val (.int p0)] [(.int (6 : Int32)), (.int p0)])) _
                  refine XS.icmpNo X0.here hx rfl (hb hby d1_44) rfl (XT.ii_ne_f hc44_14) ?_
                  show Steps p.tables e below (s₁.setTop (mkF m 47 #[.val (.int p0)] [])) _
                  refine XS.iconst X0.here hx rfl (hb hby d1_47) ?_
                  show Steps p.tables e below (s₁.setTop (mkF m 48 #[.val (.int p0)] [(.int (0 : Int32))])) _
                  exact retI X0 hx Bd.returns (hb hby d1_48) hrT
                · show Q1 Z p0 h0 n0 _ s₁.heap _
                  rw [e0]
                  have hv : f_lo p0 = (0 : Int32) := by unfold f_lo; rw [if_neg hc1_2]; rw [if_neg hc8_4]; rw [if_neg hc15_6]; rw [if_neg hc22_8]; rw [if_neg hc29_10]; rw [if_neg hc36_12]; rw [if_pos hc44_14]
                  exact ⟨(congrArg (fun z => some (Value.int z)) hv.symm), N0, rfl⟩
              case neg =>
                have S15 : ∀ t, Steps p.tables e below (s₁.setTop (mkF m 52 #[.val (.int p0)] [(.int (7 : Int32)), (.int p0)])) t → Steps p.tables e below (s₁.setTop (entryFrame m #[(.int p0)] 1)) t := by
                  intro t kt
                  refine S13 _ ?_
                  show Steps p.tables e below (s₁.setTop (mkF m 44 #[.val (.int p0)] [(.int (6 : Int32)), (.int p0)])) _
                  refine XS.icmpYes X0.here hx rfl (pc0 := 44) (pc' := 49) rfl (hb hby d1_44) rfl (XT.ii_ne_t hc44_14) (by decide) (by decide) ?_
                  show Steps p.tables e below (s₁.setTop (mkF m 49 #[.val (.int p0)] [])) _
                  refine XS.iloadN X0.here hx rfl (hb hby d1_49) rfl ?_
                  show Steps p.tables e below (s₁.setTop (mkF m 50 #[.val (.int p0)] [(.int p0)])) _
                  refine XS.bipush X0.here hx rfl (hb hby d1_50) ?_
                  exact kt
                by_cases hc52_16 : p0 < (7 : Int32)
                case pos =>
                  obtain ⟨fs, hrT, hrunT, hendT, hWT, hsameT⟩ := X0.leave (v := some (.int (0 : Int32))) (fun h => by rw [Bd.returns] at h; cases h)
                  refine ⟨_, _, S15 _ ?_, hrunT, hendT, _, _, rfl, ?_, ⟨_, rfl⟩, hWT, hsameT.mono (by decide) (by decide)⟩
                  · show Steps p.tables e below (s₁.setTop (mkF m 52 #[.val (.int p0)] [(.int (7 : Int32)), (.int p0)])) _
                    refine XS.icmpYes X0.here hx rfl (pc0 := 52) (pc' := 63) rfl (hb hby d1_52) rfl (XT.ii_lt_t hc52_16) (by decide) (by decide) ?_
                    show Steps p.tables e below (s₁.setTop (mkF m 63 #[.val (.int p0)] [])) _
                    refine XS.iconst X0.here hx rfl (hb hby d1_63) ?_
                    show Steps p.tables e below (s₁.setTop (mkF m 64 #[.val (.int p0)] [(.int (0 : Int32))])) _
                    exact retI X0 hx Bd.returns (hb hby d1_64) hrT
                  · show Q1 Z p0 h0 n0 _ s₁.heap _
                    rw [e0]
                    have hv : f_lo p0 = (0 : Int32) := by unfold f_lo; rw [if_neg hc1_2]; rw [if_neg hc8_4]; rw [if_neg hc15_6]; rw [if_neg hc22_8]; rw [if_neg hc29_10]; rw [if_neg hc36_12]; rw [if_neg hc44_14]; rw [if_pos hc52_16]
                    exact ⟨(congrArg (fun z => some (Value.int z)) hv.symm), N0, rfl⟩
                case neg =>
                  have S17 : ∀ t, Steps p.tables e below (s₁.setTop (mkF m 58 #[.val (.int p0)] [(.int (10 : Int32)), (.int p0)])) t → Steps p.tables e below (s₁.setTop (entryFrame m #[(.int p0)] 1)) t := by
                    intro t kt
                    refine S15 _ ?_
                    show Steps p.tables e below (s₁.setTop (mkF m 52 #[.val (.int p0)] [(.int (7 : Int32)), (.int p0)])) _
                    refine XS.icmpNo X0.here hx rfl (hb hby d1_52) rfl (XT.ii_lt_f hc52_16) ?_
                    show Steps p.tables e below (s₁.setTop (mkF m 55 #[.val (.int p0)] [])) _
                    refine XS.iloadN X0.here hx rfl (hb hby d1_55) rfl ?_
                    show Steps p.tables e below (s₁.setTop (mkF m 56 #[.val (.int p0)] [(.int p0)])) _
                    refine XS.bipush X0.here hx rfl (hb hby d1_56) ?_
                    exact kt
                  by_cases hc58_18 : (10 : Int32) < p0
                  case pos =>
                    obtain ⟨fs, hrT, hrunT, hendT, hWT, hsameT⟩ := X0.leave (v := some (.int (0 : Int32))) (fun h => by rw [Bd.returns] at h; cases h)
                    refine ⟨_, _, S17 _ ?_, hrunT, hendT, _, _, rfl, ?_, ⟨_, rfl⟩, hWT, hsameT.mono (by decide) (by decide)⟩
                    · show Steps p.tables e below (s₁.setTop (mkF m 58 #[.val (.int p0)] [(.int (10 : Int32)), (.int p0)])) _
                      refine XS.icmpYes X0.here hx rfl (pc0 := 58) (pc' := 63) rfl (hb hby d1_58) rfl (XT.ii_gt_t hc58_18) (by decide) (by decide) ?_
                      show Steps p.tables e below (s₁.setTop (mkF m 63 #[.val (.int p0)] [])) _
                      refine XS.iconst X0.here hx rfl (hb hby d1_63) ?_
                      show Steps p.tables e below (s₁.setTop (mkF m 64 #[.val (.int p0)] [(.int (0 : Int32))])) _
                      exact retI X0 hx Bd.returns (hb hby d1_64) hrT
                    · show Q1 Z p0 h0 n0 _ s₁.heap _
                      rw [e0]
                      have hv : f_lo p0 = (0 : Int32) := by unfold f_lo; rw [if_neg hc1_2]; rw [if_neg hc8_4]; rw [if_neg hc15_6]; rw [if_neg hc22_8]; rw [if_neg hc29_10]; rw [if_neg hc36_12]; rw [if_neg hc44_14]; rw [if_neg hc52_16]; rw [if_pos hc58_18]
                      exact ⟨(congrArg (fun z => some (Value.int z)) hv.symm), N0, rfl⟩
                  case neg =>
                    obtain ⟨fs, hrT, hrunT, hendT, hWT, hsameT⟩ := X0.leave (v := some (.int (1 : Int32))) (fun h => by rw [Bd.returns] at h; cases h)
                    refine ⟨_, _, S17 _ ?_, hrunT, hendT, _, _, rfl, ?_, ⟨_, rfl⟩, hWT, hsameT.mono (by decide) (by decide)⟩
                    · show Steps p.tables e below (s₁.setTop (mkF m 58 #[.val (.int p0)] [(.int (10 : Int32)), (.int p0)])) _
                      refine XS.icmpNo X0.here hx rfl (hb hby d1_58) rfl (XT.ii_gt_f hc58_18) ?_
                      show Steps p.tables e below (s₁.setTop (mkF m 61 #[.val (.int p0)] [])) _
                      refine XS.iconst X0.here hx rfl (hb hby d1_61) ?_
                      show Steps p.tables e below (s₁.setTop (mkF m 62 #[.val (.int p0)] [(.int (1 : Int32))])) _
                      exact retI X0 hx Bd.returns (hb hby d1_62) hrT
                    · show Q1 Z p0 h0 n0 _ s₁.heap _
                      rw [e0]
                      have hv : f_lo p0 = (1 : Int32) := by unfold f_lo; rw [if_neg hc1_2]; rw [if_neg hc8_4]; rw [if_neg hc15_6]; rw [if_neg hc22_8]; rw [if_neg hc29_10]; rw [if_neg hc36_12]; rw [if_neg hc44_14]; rw [if_neg hc52_16]; rw [if_neg hc58_18]
                      exact ⟨(congrArg (fun z => some (Value.int z)) hv.symm), N0, rfl⟩
theorem d2_0 : decode method_4_code 0 = .ok (.iload_n 0, 1) := by decide +kernel
theorem d2_1 : decode method_4_code 1 = .ok (.ifCond .ne 6, 3) := by decide +kernel
theorem d2_4 : decode method_4_code 4 = .ok (.bipush 7, 2) := by decide +kernel
theorem d2_6 : decode method_4_code 6 = .ok (.ireturn, 1) := by decide +kernel
theorem d2_7 : decode method_4_code 7 = .ok (.iload_n 0, 1) := by decide +kernel
theorem d2_8 : decode method_4_code 8 = .ok (.iconst 1, 1) := by decide +kernel
theorem d2_9 : decode method_4_code 9 = .ok (.if_icmp .ne 5, 3) := by decide +kernel
theorem d2_12 : decode method_4_code 12 = .ok (.iconst 4, 1) := by decide +kernel
theorem d2_13 : decode method_4_code 13 = .ok (.ireturn, 1) := by decide +kernel
theorem d2_14 : decode method_4_code 14 = .ok (.iload_n 0, 1) := by decide +kernel
theorem d2_15 : decode method_4_code 15 = .ok (.iconst 2, 1) := by decide +kernel
theorem d2_16 : decode method_4_code 16 = .ok (.if_icmp .ne 5, 3) := by decide +kernel
theorem d2_19 : decode method_4_code 19 = .ok (.iconst 2, 1) := by decide +kernel
theorem d2_20 : decode method_4_code 20 = .ok (.ireturn, 1) := by decide +kernel
theorem d2_21 : decode method_4_code 21 = .ok (.iload_n 0, 1) := by decide +kernel
theorem d2_22 : decode method_4_code 22 = .ok (.iconst 3, 1) := by decide +kernel
theorem d2_23 : decode method_4_code 23 = .ok (.if_icmp .ne 6, 3) := by decide +kernel
theorem d2_26 : decode method_4_code 26 = .ok (.bipush 12, 2) := by decide +kernel
theorem d2_28 : decode method_4_code 28 = .ok (.ireturn, 1) := by decide +kernel
theorem d2_29 : decode method_4_code 29 = .ok (.iload_n 0, 1) := by decide +kernel
theorem d2_30 : decode method_4_code 30 = .ok (.iconst 4, 1) := by decide +kernel
theorem d2_31 : decode method_4_code 31 = .ok (.if_icmp .ne 5, 3) := by decide +kernel
theorem d2_34 : decode method_4_code 34 = .ok (.iconst 4, 1) := by decide +kernel
theorem d2_35 : decode method_4_code 35 = .ok (.ireturn, 1) := by decide +kernel
theorem d2_36 : decode method_4_code 36 = .ok (.iload_n 0, 1) := by decide +kernel
theorem d2_37 : decode method_4_code 37 = .ok (.iconst 5, 1) := by decide +kernel
theorem d2_38 : decode method_4_code 38 = .ok (.if_icmp .ne 5, 3) := by decide +kernel
theorem d2_41 : decode method_4_code 41 = .ok (.iconst 5, 1) := by decide +kernel
theorem d2_42 : decode method_4_code 42 = .ok (.ireturn, 1) := by decide +kernel
theorem d2_43 : decode method_4_code 43 = .ok (.iload_n 0, 1) := by decide +kernel
theorem d2_44 : decode method_4_code 44 = .ok (.bipush 6, 2) := by decide +kernel
theorem d2_46 : decode method_4_code 46 = .ok (.if_icmp .ne 5, 3) := by decide +kernel
theorem d2_49 : decode method_4_code 49 = .ok (.iconst 3, 1) := by decide +kernel
theorem d2_50 : decode method_4_code 50 = .ok (.ireturn, 1) := by decide +kernel
theorem d2_51 : decode method_4_code 51 = .ok (.iload_n 0, 1) := by decide +kernel
theorem d2_52 : decode method_4_code 52 = .ok (.bipush 7, 2) := by decide +kernel
theorem d2_54 : decode method_4_code 54 = .ok (.if_icmp .lt 11, 3) := by decide +kernel
theorem d2_65 : decode method_4_code 65 = .ok (.iconst 0, 1) := by decide +kernel
theorem d2_66 : decode method_4_code 66 = .ok (.ireturn, 1) := by decide +kernel
theorem d2_57 : decode method_4_code 57 = .ok (.iload_n 0, 1) := by decide +kernel
theorem d2_58 : decode method_4_code 58 = .ok (.bipush 10, 2) := by decide +kernel
theorem d2_60 : decode method_4_code 60 = .ok (.if_icmp .gt 5, 3) := by decide +kernel
theorem d2_63 : decode method_4_code 63 = .ok (.iconst 1, 1) := by decide +kernel
theorem d2_64 : decode method_4_code 64 = .ok (.ireturn, 1) := by decide +kernel
def f_hi (p0 : Int32) : Int32 := (if p0 = 0 then (7 : Int32) else (if p0 = (1 : Int32) then (4 : Int32) else (if p0 = (2 : Int32) then (2 : Int32) else (if p0 = (3 : Int32) then (12 : Int32) else (if p0 = (4 : Int32) then (4 : Int32) else (if p0 = (5 : Int32) then (5 : Int32) else (if p0 = (6 : Int32) then (3 : Int32) else (if p0 < (7 : Int32) then (0 : Int32) else (if (10 : Int32) < p0 then (0 : Int32) else (1 : Int32))))))))))
theorem ef2 (m : MethodId) (x0 : Int32) : entryFrame m #[(.int x0)] 1 = mkF m 0 #[.val (.int x0)] [] := by first | (simp [entryFrame, mkF, argsToLocals, Value.category]; done) | rfl
def Q2 (Z : State) (p0 : Int32) (h0 : Heap) (n0 : Nat) (v : Option Value) (h : Heap) (L : List Loc) : Prop := v = some (.int (f_hi p0)) ∧ Fr n0 L ∧ h = h0
set_option maxRecDepth 65536 in
set_option maxHeartbeats 40000000 in
theorem rm2 (l : Launch) (Z : State) (a0 : Array Value) (hw : ∀ d ∈ tables_1, d.before a0 Z = true) (ws : List Jvm.Cond) (p0 : Int32) (h0 : Heap) (n0 : Nat) (Z0 : n0 ≤ h0.size) :
    MetFree l (⟨"com/example/sluice/sluice/protocol/ApiKeyServesPinLaw", "hi", "(I)I"⟩ : MethodName) (head1 (Jvm.Cond.code (⟨"com/example/sluice/sluice/protocol/ApiKeyServesPinLaw", "hi", "(I)I"⟩ : MethodName) method_4_code 1 (some .int) :: ws) ({ frames := 0, cells := 0, slots := 0, locals := 0 } : Room)) (fun a U => a = #[(.int p0)] ∧ Z.Warmed39 U.vm ∧ U.heap = h0) (fun _ _ _ _ _ => True) (fun _ U o U' => ∃ v L, o = .returned v ∧ Q2 Z p0 h0 n0 v U'.heap L ∧ FrameEnd U o U' L ({ frames := 0, cells := 0, slots := 0, locals := 0 } : Room).cells ({ frames := 0, cells := 0, slots := 0, locals := 0 } : Room).slots) := by
  refine MetFree.of_bodySF (plainFor_of_name pn_ApiKeyServesPinLaw) hisR ?_
  intro p e s m args below meth c s₁ Bd hml0 hP hK
  obtain ⟨rfl, hZ, hh⟩ := hP
  have hx := Bd.exec
  have hby := Bd.bytes
  have hml : c.maxLocals = 1 := hml0
  have hown : s.vm.findClass "com/example/sluice/sluice/protocol/ApiKeyServesPinLaw" = some m.cls := findClass_of_methodNamed Bd.named
  have hnm := (name_of_methodNamed Bd.named Bd.method).1
  have X0 : Stand p l e ({ frames := 0, cells := 0, slots := 0, locals := 0 } : Room) s m #[(.int p0)] below meth c s₁ [] 0 0 := Stand.of_body Bd
  have e0 : s₁.heap = h0 := by rw [← hh, Bd.state]; rfl
  have N0 := Fr.nil n0
  have pre0 : ∀ t, Steps p.tables e below (s₁.setTop (mkF m 0 #[.val (.int p0)] [])) t → Steps p.tables e below (s₁.setTop (entryFrame m #[(.int p0)] 1)) t := fun t k => castTop (ef2 m p0) k
  have S19 : ∀ t, Steps p.tables e below (s₁.setTop (mkF m 1 #[.val (.int p0)] [(.int p0)])) t → Steps p.tables e below (s₁.setTop (entryFrame m #[(.int p0)] 1)) t := by
    intro t kt
    refine pre0 _ ?_
    show Steps p.tables e below (s₁.setTop (mkF m 0 #[.val (.int p0)] [])) _
    refine XS.iloadN X0.here hx rfl (hb hby d2_0) rfl ?_
    exact kt
  by_cases hc1_20 : p0 = 0
  case pos =>
    obtain ⟨fs, hrT, hrunT, hendT, hWT, hsameT⟩ := X0.leave (v := some (.int (7 : Int32))) (fun h => by rw [Bd.returns] at h; cases h)
    refine ⟨_, _, S19 _ ?_, hrunT, hendT, _, _, rfl, ?_, ⟨_, rfl⟩, hWT, hsameT.mono (by decide) (by decide)⟩
    · show Steps p.tables e below (s₁.setTop (mkF m 1 #[.val (.int p0)] [(.int p0)])) _
      refine XS.ifNo X0.here hx rfl (hb hby d2_1) rfl (XT.i0_ne_f hc1_20) ?_
      show Steps p.tables e below (s₁.setTop (mkF m 4 #[.val (.int p0)] [])) _
      refine XS.bipush X0.here hx rfl (hb hby d2_4) ?_
      show Steps p.tables e below (s₁.setTop (mkF m 6 #[.val (.int p0)] [(.int (7 : Int32))])) _
      exact retI X0 hx Bd.returns (hb hby d2_6) hrT
    · show Q2 Z p0 h0 n0 _ s₁.heap _
      rw [e0]
      have hv : f_hi p0 = (7 : Int32) := by unfold f_hi; rw [if_pos hc1_20]
      exact ⟨(congrArg (fun z => some (Value.int z)) hv.symm), N0, rfl⟩
  case neg =>
    have S21 : ∀ t, Steps p.tables e below (s₁.setTop (mkF m 9 #[.val (.int p0)] [(.int (1 : Int32)), (.int p0)])) t → Steps p.tables e below (s₁.setTop (entryFrame m #[(.int p0)] 1)) t := by
      intro t kt
      refine S19 _ ?_
      show Steps p.tables e below (s₁.setTop (mkF m 1 #[.val (.int p0)] [(.int p0)])) _
      refine XS.ifYes X0.here hx rfl (pc0 := 1) (pc' := 7) rfl (hb hby d2_1) rfl (XT.i0_ne_t hc1_20) (by decide) (by decide) ?_
      show Steps p.tables e below (s₁.setTop (mkF m 7 #[.val (.int p0)] [])) _
      refine XS.iloadN X0.here hx rfl (hb hby d2_7) rfl ?_
      show Steps p.tables e below (s₁.setTop (mkF m 8 #[.val (.int p0)] [(.int p0)])) _
      refine XS.iconst X0.here hx rfl (hb hby d2_8) ?_
      exact kt
    by_cases hc9_22 : p0 = (1 : Int32)
    case pos =>
      obtain ⟨fs, hrT, hrunT, hendT, hWT, hsameT⟩ := X0.leave (v := some (.int (4 : Int32))) (fun h => by rw [Bd.returns] at h; cases h)
      refine ⟨_, _, S21 _ ?_, hrunT, hendT, _, _, rfl, ?_, ⟨_, rfl⟩, hWT, hsameT.mono (by decide) (by decide)⟩
      · show Steps p.tables e below (s₁.setTop (mkF m 9 #[.val (.int p0)] [(.int (1 : Int32)), (.int p0)])) _
        refine XS.icmpNo X0.here hx rfl (hb hby d2_9) rfl (XT.ii_ne_f hc9_22) ?_
        show Steps p.tables e below (s₁.setTop (mkF m 12 #[.val (.int p0)] [])) _
        refine XS.iconst X0.here hx rfl (hb hby d2_12) ?_
        show Steps p.tables e below (s₁.setTop (mkF m 13 #[.val (.int p0)] [(.int (4 : Int32))])) _
        exact retI X0 hx Bd.returns (hb hby d2_13) hrT
      · show Q2 Z p0 h0 n0 _ s₁.heap _
        rw [e0]
        have hv : f_hi p0 = (4 : Int32) := by unfold f_hi; rw [if_neg hc1_20]; rw [if_pos hc9_22]
        exact ⟨(congrArg (fun z => some (Value.int z)) hv.symm), N0, rfl⟩
    case neg =>
      have S23 : ∀ t, Steps p.tables e below (s₁.setTop (mkF m 16 #[.val (.int p0)] [(.int (2 : Int32)), (.int p0)])) t → Steps p.tables e below (s₁.setTop (entryFrame m #[(.int p0)] 1)) t := by
        intro t kt
        refine S21 _ ?_
        show Steps p.tables e below (s₁.setTop (mkF m 9 #[.val (.int p0)] [(.int (1 : Int32)), (.int p0)])) _
        refine XS.icmpYes X0.here hx rfl (pc0 := 9) (pc' := 14) rfl (hb hby d2_9) rfl (XT.ii_ne_t hc9_22) (by decide) (by decide) ?_
        show Steps p.tables e below (s₁.setTop (mkF m 14 #[.val (.int p0)] [])) _
        refine XS.iloadN X0.here hx rfl (hb hby d2_14) rfl ?_
        show Steps p.tables e below (s₁.setTop (mkF m 15 #[.val (.int p0)] [(.int p0)])) _
        refine XS.iconst X0.here hx rfl (hb hby d2_15) ?_
        exact kt
      by_cases hc16_24 : p0 = (2 : Int32)
      case pos =>
        obtain ⟨fs, hrT, hrunT, hendT, hWT, hsameT⟩ := X0.leave (v := some (.int (2 : Int32))) (fun h => by rw [Bd.returns] at h; cases h)
        refine ⟨_, _, S23 _ ?_, hrunT, hendT, _, _, rfl, ?_, ⟨_, rfl⟩, hWT, hsameT.mono (by decide) (by decide)⟩
        · show Steps p.tables e below (s₁.setTop (mkF m 16 #[.val (.int p0)] [(.int (2 : Int32)), (.int p0)])) _
          refine XS.icmpNo X0.here hx rfl (hb hby d2_16) rfl (XT.ii_ne_f hc16_24) ?_
          show Steps p.tables e below (s₁.setTop (mkF m 19 #[.val (.int p0)] [])) _
          refine XS.iconst X0.here hx rfl (hb hby d2_19) ?_
          show Steps p.tables e below (s₁.setTop (mkF m 20 #[.val (.int p0)] [(.int (2 : Int32))])) _
          exact retI X0 hx Bd.returns (hb hby d2_20) hrT
        · show Q2 Z p0 h0 n0 _ s₁.heap _
          rw [e0]
          have hv : f_hi p0 = (2 : Int32) := by unfold f_hi; rw [if_neg hc1_20]; rw [if_neg hc9_22]; rw [if_pos hc16_24]
          exact ⟨(congrArg (fun z => some (Value.int z)) hv.symm), N0, rfl⟩
      case neg =>
        have S25 : ∀ t, Steps p.tables e below (s₁.setTop (mkF m 23 #[.val (.int p0)] [(.int (3 : Int32)), (.int p0)])) t → Steps p.tables e below (s₁.setTop (entryFrame m #[(.int p0)] 1)) t := by
          intro t kt
          refine S23 _ ?_
          show Steps p.tables e below (s₁.setTop (mkF m 16 #[.val (.int p0)] [(.int (2 : Int32)), (.int p0)])) _
          refine XS.icmpYes X0.here hx rfl (pc0 := 16) (pc' := 21) rfl (hb hby d2_16) rfl (XT.ii_ne_t hc16_24) (by decide) (by decide) ?_
          show Steps p.tables e below (s₁.setTop (mkF m 21 #[.val (.int p0)] [])) _
          refine XS.iloadN X0.here hx rfl (hb hby d2_21) rfl ?_
          show Steps p.tables e below (s₁.setTop (mkF m 22 #[.val (.int p0)] [(.int p0)])) _
          refine XS.iconst X0.here hx rfl (hb hby d2_22) ?_
          exact kt
        by_cases hc23_26 : p0 = (3 : Int32)
        case pos =>
          obtain ⟨fs, hrT, hrunT, hendT, hWT, hsameT⟩ := X0.leave (v := some (.int (12 : Int32))) (fun h => by rw [Bd.returns] at h; cases h)
          refine ⟨_, _, S25 _ ?_, hrunT, hendT, _, _, rfl, ?_, ⟨_, rfl⟩, hWT, hsameT.mono (by decide) (by decide)⟩
          · show Steps p.tables e below (s₁.setTop (mkF m 23 #[.val (.int p0)] [(.int (3 : Int32)), (.int p0)])) _
            refine XS.icmpNo X0.here hx rfl (hb hby d2_23) rfl (XT.ii_ne_f hc23_26) ?_
            show Steps p.tables e below (s₁.setTop (mkF m 26 #[.val (.int p0)] [])) _
            refine XS.bipush X0.here hx rfl (hb hby d2_26) ?_
            show Steps p.tables e below (s₁.setTop (mkF m 28 #[.val (.int p0)] [(.int (12 : Int32))])) _
            exact retI X0 hx Bd.returns (hb hby d2_28) hrT
          · show Q2 Z p0 h0 n0 _ s₁.heap _
            rw [e0]
            have hv : f_hi p0 = (12 : Int32) := by unfold f_hi; rw [if_neg hc1_20]; rw [if_neg hc9_22]; rw [if_neg hc16_24]; rw [if_pos hc23_26]
            exact ⟨(congrArg (fun z => some (Value.int z)) hv.symm), N0, rfl⟩
        case neg =>
          have S27 : ∀ t, Steps p.tables e below (s₁.setTop (mkF m 31 #[.val (.int p0)] [(.int (4 : Int32)), (.int p0)])) t → Steps p.tables e below (s₁.setTop (entryFrame m #[(.int p0)] 1)) t := by
            intro t kt
            refine S25 _ ?_
            show Steps p.tables e below (s₁.setTop (mkF m 23 #[.val (.int p0)] [(.int (3 : Int32)), (.int p0)])) _
            refine XS.icmpYes X0.here hx rfl (pc0 := 23) (pc' := 29) rfl (hb hby d2_23) rfl (XT.ii_ne_t hc23_26) (by decide) (by decide) ?_
            show Steps p.tables e below (s₁.setTop (mkF m 29 #[.val (.int p0)] [])) _
            refine XS.iloadN X0.here hx rfl (hb hby d2_29) rfl ?_
            show Steps p.tables e below (s₁.setTop (mkF m 30 #[.val (.int p0)] [(.int p0)])) _
            refine XS.iconst X0.here hx rfl (hb hby d2_30) ?_
            exact kt
          by_cases hc31_28 : p0 = (4 : Int32)
          case pos =>
            obtain ⟨fs, hrT, hrunT, hendT, hWT, hsameT⟩ := X0.leave (v := some (.int (4 : Int32))) (fun h => by rw [Bd.returns] at h; cases h)
            refine ⟨_, _, S27 _ ?_, hrunT, hendT, _, _, rfl, ?_, ⟨_, rfl⟩, hWT, hsameT.mono (by decide) (by decide)⟩
            · show Steps p.tables e below (s₁.setTop (mkF m 31 #[.val (.int p0)] [(.int (4 : Int32)), (.int p0)])) _
              refine XS.icmpNo X0.here hx rfl (hb hby d2_31) rfl (XT.ii_ne_f hc31_28) ?_
              show Steps p.tables e below (s₁.setTop (mkF m 34 #[.val (.int p0)] [])) _
              refine XS.iconst X0.here hx rfl (hb hby d2_34) ?_
              show Steps p.tables e below (s₁.setTop (mkF m 35 #[.val (.int p0)] [(.int (4 : Int32))])) _
              exact retI X0 hx Bd.returns (hb hby d2_35) hrT
            · show Q2 Z p0 h0 n0 _ s₁.heap _
              rw [e0]
              have hv : f_hi p0 = (4 : Int32) := by unfold f_hi; rw [if_neg hc1_20]; rw [if_neg hc9_22]; rw [if_neg hc16_24]; rw [if_neg hc23_26]; rw [if_pos hc31_28]
              exact ⟨(congrArg (fun z => some (Value.int z)) hv.symm), N0, rfl⟩
          case neg =>
            have S29 : ∀ t, Steps p.tables e below (s₁.setTop (mkF m 38 #[.val (.int p0)] [(.int (5 : Int32)), (.int p0)])) t → Steps p.tables e below (s₁.setTop (entryFrame m #[(.int p0)] 1)) t := by
              intro t kt
              refine S27 _ ?_
              show Steps p.tables e below (s₁.setTop (mkF m 31 #[.val (.int p0)] [(.int (4 : Int32)), (.int p0)])) _
              refine XS.icmpYes X0.here hx rfl (pc0 := 31) (pc' := 36) rfl (hb hby d2_31) rfl (XT.ii_ne_t hc31_28) (by decide) (by decide) ?_
              show Steps p.tables e below (s₁.setTop (mkF m 36 #[.val (.int p0)] [])) _
              refine XS.iloadN X0.here hx rfl (hb hby d2_36) rfl ?_
              show Steps p.tables e below (s₁.setTop (mkF m 37 #[.val (.int p0)] [(.int p0)])) _
              refine XS.iconst X0.here hx rfl (hb hby d2_37) ?_
              exact kt
            by_cases hc38_30 : p0 = (5 : Int32)
            case pos =>
              obtain ⟨fs, hrT, hrunT, hendT, hWT, hsameT⟩ := X0.leave (v := some (.int (5 : Int32))) (fun h => by rw [Bd.returns] at h; cases h)
              refine ⟨_, _, S29 _ ?_, hrunT, hendT, _, _, rfl, ?_, ⟨_, rfl⟩, hWT, hsameT.mono (by decide) (by decide)⟩
              · show Steps p.tables e below (s₁.setTop (mkF m 38 #[.val (.int p0)] [(.int (5 : Int32)), (.int p0)])) _
                refine XS.icmpNo X0.here hx rfl (hb hby d2_38) rfl (XT.ii_ne_f hc38_30) ?_
                show Steps p.tables e below (s₁.setTop (mkF m 41 #[.val (.int p0)] [])) _
                refine XS.iconst X0.here hx rfl (hb hby d2_41) ?_
                show Steps p.tables e below (s₁.setTop (mkF m 42 #[.val (.int p0)] [(.int (5 : Int32))])) _
                exact retI X0 hx Bd.returns (hb hby d2_42) hrT
              · show Q2 Z p0 h0 n0 _ s₁.heap _
                rw [e0]
                have hv : f_hi p0 = (5 : Int32) := by unfold f_hi; rw [if_neg hc1_20]; rw [if_neg hc9_22]; rw [if_neg hc16_24]; rw [if_neg hc23_26]; rw [if_neg hc31_28]; rw [if_pos hc38_30]
                exact ⟨(congrArg (fun z => some (Value.int z)) hv.symm), N0, rfl⟩
            case neg =>
              have S31 : ∀ t, Steps p.tables e below (s₁.setTop (mkF m 46 #[.val (.int p0)] [(.int (6 : Int32)), (.int p0)])) t → Steps p.tables e below (s₁.setTop (entryFrame m #[(.int p0)] 1)) t := by
                intro t kt
                refine S29 _ ?_
                show Steps p.tables e below (s₁.setTop (mkF m 38 #[.val (.int p0)] [(.int (5 : Int32)), (.int p0)])) _
                refine XS.icmpYes X0.here hx rfl (pc0 := 38) (pc' := 43) rfl (hb hby d2_38) rfl (XT.ii_ne_t hc38_30) (by decide) (by decide) ?_
                show Steps p.tables e below (s₁.setTop (mkF m 43 #[.val (.int p0)] [])) _
                refine XS.iloadN X0.here hx rfl (hb hby d2_43) rfl ?_
                show Steps p.tables e below (s₁.setTop (mkF m 44 #[.val (.int p0)] [(.int p0)])) _
                refine XS.bipush X0.here hx rfl (hb hby d2_44) ?_
                exact kt
              by_cases hc46_32 : p0 = (6 : Int32)
              case pos =>
                obtain ⟨fs, hrT, hrunT, hendT, hWT, hsameT⟩ := X0.leave (v := some (.int (3 : Int32))) (fun h => by rw [Bd.returns] at h; cases h)
                refine ⟨_, _, S31 _ ?_, hrunT, hendT, _, _, rfl, ?_, ⟨_, rfl⟩, hWT, hsameT.mono (by decide) (by decide)⟩
                · show Steps p.tables e below (s₁.setTop (mkF m 46 #[.val (.int p0)] [(.int (6 : Int32)), (.int p0)])) _
                  refine XS.icmpNo X0.here hx rfl (hb hby d2_46) rfl (XT.ii_ne_f hc46_32) ?_
                  show Steps p.tables e below (s₁.setTop (mkF m 49 #[.val (.int p0)] [])) _
                  refine XS.iconst X0.here hx rfl (hb hby d2_49) ?_
                  show Steps p.tables e below (s₁.setTop (mkF m 50 #[.val (.int p0)] [(.int (3 : Int32))])) _
                  exact retI X0 hx Bd.returns (hb hby d2_50) hrT
                · show Q2 Z p0 h0 n0 _ s₁.heap _
                  rw [e0]
                  have hv : f_hi p0 = (3 : Int32) := by unfold f_hi; rw [if_neg hc1_20]; rw [if_neg hc9_22]; rw [if_neg hc16_24]; rw [if_neg hc23_26]; rw [if_neg hc31_28]; rw [if_neg hc38_30]; rw [if_pos hc46_32]
                  exact ⟨(congrArg (fun z => some (Value.int z)) hv.symm), N0, rfl⟩
              case neg =>
                have S33 : ∀ t, Steps p.tables e below (s₁.setTop (mkF m 54 #[.val (.int p0)] [(.int (7 : Int32)), (.int p0)])) t → Steps p.tables e below (s₁.setTop (entryFrame m #[(.int p0)] 1)) t := by
                  intro t kt
                  refine S31 _ ?_
                  show Steps p.tables e below (s₁.setTop (mkF m 46 #[.val (.int p0)] [(.int (6 : Int32)), (.int p0)])) _
                  refine XS.icmpYes X0.here hx rfl (pc0 := 46) (pc' := 51) rfl (hb hby d2_46) rfl (XT.ii_ne_t hc46_32) (by decide) (by decide) ?_
                  show Steps p.tables e below (s₁.setTop (mkF m 51 #[.val (.int p0)] [])) _
                  refine XS.iloadN X0.here hx rfl (hb hby d2_51) rfl ?_
                  show Steps p.tables e below (s₁.setTop (mkF m 52 #[.val (.int p0)] [(.int p0)])) _
                  refine XS.bipush X0.here hx rfl (hb hby d2_52) ?_
                  exact kt
                by_cases hc54_34 : p0 < (7 : Int32)
                case pos =>
                  obtain ⟨fs, hrT, hrunT, hendT, hWT, hsameT⟩ := X0.leave (v := some (.int (0 : Int32))) (fun h => by rw [Bd.returns] at h; cases h)
                  refine ⟨_, _, S33 _ ?_, hrunT, hendT, _, _, rfl, ?_, ⟨_, rfl⟩, hWT, hsameT.mono (by decide) (by decide)⟩
                  · show Steps p.tables e below (s₁.setTop (mkF m 54 #[.val (.int p0)] [(.int (7 : Int32)), (.int p0)])) _
                    refine XS.icmpYes X0.here hx rfl (pc0 := 54) (pc' := 65) rfl (hb hby d2_54) rfl (XT.ii_lt_t hc54_34) (by decide) (by decide) ?_
                    show Steps p.tables e below (s₁.setTop (mkF m 65 #[.val (.int p0)] [])) _
                    refine XS.iconst X0.here hx rfl (hb hby d2_65) ?_
                    show Steps p.tables e below (s₁.setTop (mkF m 66 #[.val (.int p0)] [(.int (0 : Int32))])) _
                    exact retI X0 hx Bd.returns (hb hby d2_66) hrT
                  · show Q2 Z p0 h0 n0 _ s₁.heap _
                    rw [e0]
                    have hv : f_hi p0 = (0 : Int32) := by unfold f_hi; rw [if_neg hc1_20]; rw [if_neg hc9_22]; rw [if_neg hc16_24]; rw [if_neg hc23_26]; rw [if_neg hc31_28]; rw [if_neg hc38_30]; rw [if_neg hc46_32]; rw [if_pos hc54_34]
                    exact ⟨(congrArg (fun z => some (Value.int z)) hv.symm), N0, rfl⟩
                case neg =>
                  have S35 : ∀ t, Steps p.tables e below (s₁.setTop (mkF m 60 #[.val (.int p0)] [(.int (10 : Int32)), (.int p0)])) t → Steps p.tables e below (s₁.setTop (entryFrame m #[(.int p0)] 1)) t := by
                    intro t kt
                    refine S33 _ ?_
                    show Steps p.tables e below (s₁.setTop (mkF m 54 #[.val (.int p0)] [(.int (7 : Int32)), (.int p0)])) _
                    refine XS.icmpNo X0.here hx rfl (hb hby d2_54) rfl (XT.ii_lt_f hc54_34) ?_
                    show Steps p.tables e below (s₁.setTop (mkF m 57 #[.val (.int p0)] [])) _
                    refine XS.iloadN X0.here hx rfl (hb hby d2_57) rfl ?_
                    show Steps p.tables e below (s₁.setTop (mkF m 58 #[.val (.int p0)] [(.int p0)])) _
                    refine XS.bipush X0.here hx rfl (hb hby d2_58) ?_
                    exact kt
                  by_cases hc60_36 : (10 : Int32) < p0
                  case pos =>
                    obtain ⟨fs, hrT, hrunT, hendT, hWT, hsameT⟩ := X0.leave (v := some (.int (0 : Int32))) (fun h => by rw [Bd.returns] at h; cases h)
                    refine ⟨_, _, S35 _ ?_, hrunT, hendT, _, _, rfl, ?_, ⟨_, rfl⟩, hWT, hsameT.mono (by decide) (by decide)⟩
                    · show Steps p.tables e below (s₁.setTop (mkF m 60 #[.val (.int p0)] [(.int (10 : Int32)), (.int p0)])) _
                      refine XS.icmpYes X0.here hx rfl (pc0 := 60) (pc' := 65) rfl (hb hby d2_60) rfl (XT.ii_gt_t hc60_36) (by decide) (by decide) ?_
                      show Steps p.tables e below (s₁.setTop (mkF m 65 #[.val (.int p0)] [])) _
                      refine XS.iconst X0.here hx rfl (hb hby d2_65) ?_
                      show Steps p.tables e below (s₁.setTop (mkF m 66 #[.val (.int p0)] [(.int (0 : Int32))])) _
                      exact retI X0 hx Bd.returns (hb hby d2_66) hrT
                    · show Q2 Z p0 h0 n0 _ s₁.heap _
                      rw [e0]
                      have hv : f_hi p0 = (0 : Int32) := by unfold f_hi; rw [if_neg hc1_20]; rw [if_neg hc9_22]; rw [if_neg hc16_24]; rw [if_neg hc23_26]; rw [if_neg hc31_28]; rw [if_neg hc38_30]; rw [if_neg hc46_32]; rw [if_neg hc54_34]; rw [if_pos hc60_36]
                      exact ⟨(congrArg (fun z => some (Value.int z)) hv.symm), N0, rfl⟩
                  case neg =>
                    obtain ⟨fs, hrT, hrunT, hendT, hWT, hsameT⟩ := X0.leave (v := some (.int (1 : Int32))) (fun h => by rw [Bd.returns] at h; cases h)
                    refine ⟨_, _, S35 _ ?_, hrunT, hendT, _, _, rfl, ?_, ⟨_, rfl⟩, hWT, hsameT.mono (by decide) (by decide)⟩
                    · show Steps p.tables e below (s₁.setTop (mkF m 60 #[.val (.int p0)] [(.int (10 : Int32)), (.int p0)])) _
                      refine XS.icmpNo X0.here hx rfl (hb hby d2_60) rfl (XT.ii_gt_f hc60_36) ?_
                      show Steps p.tables e below (s₁.setTop (mkF m 63 #[.val (.int p0)] [])) _
                      refine XS.iconst X0.here hx rfl (hb hby d2_63) ?_
                      show Steps p.tables e below (s₁.setTop (mkF m 64 #[.val (.int p0)] [(.int (1 : Int32))])) _
                      exact retI X0 hx Bd.returns (hb hby d2_64) hrT
                    · show Q2 Z p0 h0 n0 _ s₁.heap _
                      rw [e0]
                      have hv : f_hi p0 = (1 : Int32) := by unfold f_hi; rw [if_neg hc1_20]; rw [if_neg hc9_22]; rw [if_neg hc16_24]; rw [if_neg hc23_26]; rw [if_neg hc31_28]; rw [if_neg hc38_30]; rw [if_neg hc46_32]; rw [if_neg hc54_34]; rw [if_neg hc60_36]
                      exact ⟨(congrArg (fun z => some (Value.int z)) hv.symm), N0, rfl⟩
theorem own_last (p : Int32) (h : 0 ≤ p.toInt ∧ p.toInt < 12) (h0 : ¬ p = 0) (h1 : ¬ p = 1) (h2 : ¬ p = 2) (h3 : ¬ p = 3) (h4 : ¬ p = 4) (h5 : ¬ p = 5) (h6 : ¬ p = 6) (h7 : ¬ p = 7) (h8 : ¬ p = 8) (h9 : ¬ p = 9) (h10 : ¬ p = 10) : p = 11 := by
  rw [← Int32.toInt_inj] at *
  simp only [show (0 : Int32).toInt = 0 from rfl, show (1 : Int32).toInt = 1 from rfl, show (2 : Int32).toInt = 2 from rfl, show (3 : Int32).toInt = 3 from rfl, show (4 : Int32).toInt = 4 from rfl, show (5 : Int32).toInt = 5 from rfl, show (6 : Int32).toInt = 6 from rfl, show (7 : Int32).toInt = 7 from rfl, show (8 : Int32).toInt = 8 from rfl, show (9 : Int32).toInt = 9 from rfl, show (10 : Int32).toInt = 10 from rfl, show (11 : Int32).toInt = 11 from rfl] at *
  omega
theorem own_mod (p : Int32) : 0 ≤ ((p &&& (2147483647 : Int32)) % (12 : Int32)).toInt ∧ ((p &&& (2147483647 : Int32)) % (12 : Int32)).toInt < 12 := by
  have e1 : (p &&& (2147483647 : Int32)).toInt = p.toInt % 2 ^ 31 := Jvm.Kit.i32_mask p (2147483647 : Int32) (k := 31) (by decide) (by decide)
  have e2 := Jvm.Kit.i32_rem_nonneg (x := (p &&& (2147483647 : Int32))) (y := (12 : Int32)) (by omega)
  rw [e2, show (12 : Int32).toInt = 12 from rfl]
  omega
theorem d3_0 : decode method_2_code 0 = .ok (.iload_n 0, 1) := by decide +kernel
theorem d3_1 : decode method_2_code 1 = .ok (.ifCond .ne 7, 3) := by decide +kernel
theorem d3_4 : decode method_2_code 4 = .ok (.getstatic 7, 3) := by decide +kernel
theorem d3_7 : decode method_2_code 7 = .ok (.areturn, 1) := by decide +kernel
theorem d3_8 : decode method_2_code 8 = .ok (.iload_n 0, 1) := by decide +kernel
theorem d3_9 : decode method_2_code 9 = .ok (.iconst 1, 1) := by decide +kernel
theorem d3_10 : decode method_2_code 10 = .ok (.if_icmp .ne 7, 3) := by decide +kernel
theorem d3_13 : decode method_2_code 13 = .ok (.getstatic 13, 3) := by decide +kernel
theorem d3_16 : decode method_2_code 16 = .ok (.areturn, 1) := by decide +kernel
theorem d3_17 : decode method_2_code 17 = .ok (.iload_n 0, 1) := by decide +kernel
theorem d3_18 : decode method_2_code 18 = .ok (.iconst 2, 1) := by decide +kernel
theorem d3_19 : decode method_2_code 19 = .ok (.if_icmp .ne 7, 3) := by decide +kernel
theorem d3_22 : decode method_2_code 22 = .ok (.getstatic 16, 3) := by decide +kernel
theorem d3_25 : decode method_2_code 25 = .ok (.areturn, 1) := by decide +kernel
theorem d3_26 : decode method_2_code 26 = .ok (.iload_n 0, 1) := by decide +kernel
theorem d3_27 : decode method_2_code 27 = .ok (.iconst 3, 1) := by decide +kernel
theorem d3_28 : decode method_2_code 28 = .ok (.if_icmp .ne 7, 3) := by decide +kernel
theorem d3_31 : decode method_2_code 31 = .ok (.getstatic 19, 3) := by decide +kernel
theorem d3_34 : decode method_2_code 34 = .ok (.areturn, 1) := by decide +kernel
theorem d3_35 : decode method_2_code 35 = .ok (.iload_n 0, 1) := by decide +kernel
theorem d3_36 : decode method_2_code 36 = .ok (.iconst 4, 1) := by decide +kernel
theorem d3_37 : decode method_2_code 37 = .ok (.if_icmp .ne 7, 3) := by decide +kernel
theorem d3_40 : decode method_2_code 40 = .ok (.getstatic 22, 3) := by decide +kernel
theorem d3_43 : decode method_2_code 43 = .ok (.areturn, 1) := by decide +kernel
theorem d3_44 : decode method_2_code 44 = .ok (.iload_n 0, 1) := by decide +kernel
theorem d3_45 : decode method_2_code 45 = .ok (.iconst 5, 1) := by decide +kernel
theorem d3_46 : decode method_2_code 46 = .ok (.if_icmp .ne 7, 3) := by decide +kernel
theorem d3_49 : decode method_2_code 49 = .ok (.getstatic 25, 3) := by decide +kernel
theorem d3_52 : decode method_2_code 52 = .ok (.areturn, 1) := by decide +kernel
theorem d3_53 : decode method_2_code 53 = .ok (.iload_n 0, 1) := by decide +kernel
theorem d3_54 : decode method_2_code 54 = .ok (.bipush 6, 2) := by decide +kernel
theorem d3_56 : decode method_2_code 56 = .ok (.if_icmp .ne 7, 3) := by decide +kernel
theorem d3_59 : decode method_2_code 59 = .ok (.getstatic 28, 3) := by decide +kernel
theorem d3_62 : decode method_2_code 62 = .ok (.areturn, 1) := by decide +kernel
theorem d3_63 : decode method_2_code 63 = .ok (.iload_n 0, 1) := by decide +kernel
theorem d3_64 : decode method_2_code 64 = .ok (.bipush 7, 2) := by decide +kernel
theorem d3_66 : decode method_2_code 66 = .ok (.if_icmp .ne 7, 3) := by decide +kernel
theorem d3_69 : decode method_2_code 69 = .ok (.getstatic 31, 3) := by decide +kernel
theorem d3_72 : decode method_2_code 72 = .ok (.areturn, 1) := by decide +kernel
theorem d3_73 : decode method_2_code 73 = .ok (.iload_n 0, 1) := by decide +kernel
theorem d3_74 : decode method_2_code 74 = .ok (.bipush 8, 2) := by decide +kernel
theorem d3_76 : decode method_2_code 76 = .ok (.if_icmp .ne 7, 3) := by decide +kernel
theorem d3_79 : decode method_2_code 79 = .ok (.getstatic 34, 3) := by decide +kernel
theorem d3_82 : decode method_2_code 82 = .ok (.areturn, 1) := by decide +kernel
theorem d3_83 : decode method_2_code 83 = .ok (.iload_n 0, 1) := by decide +kernel
theorem d3_84 : decode method_2_code 84 = .ok (.bipush 9, 2) := by decide +kernel
theorem d3_86 : decode method_2_code 86 = .ok (.if_icmp .ne 7, 3) := by decide +kernel
theorem d3_89 : decode method_2_code 89 = .ok (.getstatic 37, 3) := by decide +kernel
theorem d3_92 : decode method_2_code 92 = .ok (.areturn, 1) := by decide +kernel
theorem d3_93 : decode method_2_code 93 = .ok (.iload_n 0, 1) := by decide +kernel
theorem d3_94 : decode method_2_code 94 = .ok (.bipush 10, 2) := by decide +kernel
theorem d3_96 : decode method_2_code 96 = .ok (.if_icmp .ne 7, 3) := by decide +kernel
theorem d3_99 : decode method_2_code 99 = .ok (.getstatic 40, 3) := by decide +kernel
theorem d3_102 : decode method_2_code 102 = .ok (.areturn, 1) := by decide +kernel
theorem d3_103 : decode method_2_code 103 = .ok (.getstatic 43, 3) := by decide +kernel
theorem d3_106 : decode method_2_code 106 = .ok (.areturn, 1) := by decide +kernel
theorem ef3 (m : MethodId) (x0 : Int32) : entryFrame m #[(.int x0)] 1 = mkF m 0 #[.val (.int x0)] [] := by first | (simp [entryFrame, mkF, argsToLocals, Value.category]; done) | rfl
def Q3 (Z : State) (p0 : Int32) (v_PRODUCE : Addr) (v_FETCH : Addr) (v_SHARE_GROUP_DESCRIBE : Addr) (v_DESCRIBE_SHARE_GROUP_OFFSETS : Addr) (v_API_VERSIONS : Addr) (v_SHARE_GROUP_HEARTBEAT : Addr) (v_METADATA : Addr) (v_SHARE_ACKNOWLEDGE : Addr) (v_FIND_COORDINATOR : Addr) (v_LIST_GROUPS : Addr) (v_LIST_OFFSETS : Addr) (v_SHARE_FETCH : Addr) (h0 : Heap) (n0 : Nat) (v : Option Value) (h : Heap) (L : List Loc) : Prop := ∃ bb : Addr, v = some (.ref bb) ∧ Fr n0 L ∧ h = h0 ∧ Exa Z h bb "com/example/sluice/sluice/protocol/ApiKey" ∧ Fld Z h bb "com/example/sluice/sluice/protocol/ApiKey" "minVersion" "S" (.int (f_lo p0)) ∧ Fld Z h bb "com/example/sluice/sluice/protocol/ApiKey" "maxVersion" "S" (.int (f_hi p0))
set_option maxRecDepth 65536 in
set_option maxHeartbeats 40000000 in
theorem rm3 (l : Launch) (Z : State) (a0 : Array Value) (hw : ∀ d ∈ tables_1, d.before a0 Z = true) (ws : List Jvm.Cond) (p0 : Int32) (v_PRODUCE : Addr) (v_FETCH : Addr) (v_SHARE_GROUP_DESCRIBE : Addr) (v_DESCRIBE_SHARE_GROUP_OFFSETS : Addr) (v_API_VERSIONS : Addr) (v_SHARE_GROUP_HEARTBEAT : Addr) (v_METADATA : Addr) (v_SHARE_ACKNOWLEDGE : Addr) (v_FIND_COORDINATOR : Addr) (v_LIST_GROUPS : Addr) (v_LIST_OFFSETS : Addr) (v_SHARE_FETCH : Addr) (h0 : Heap) (n0 : Nat) (Z0 : n0 ≤ h0.size) (hr : 0 ≤ p0.toInt ∧ p0.toInt < 12) (Sv_PRODUCE : Sta Z h0 "com/example/sluice/sluice/protocol/ApiKey" "PRODUCE" "Lcom/example/sluice/sluice/protocol/ApiKey;" (.ref v_PRODUCE)) (Ev_PRODUCE : Exa Z h0 v_PRODUCE "com/example/sluice/sluice/protocol/ApiKey") (Sv_FETCH : Sta Z h0 "com/example/sluice/sluice/protocol/ApiKey" "FETCH" "Lcom/example/sluice/sluice/protocol/ApiKey;" (.ref v_FETCH)) (Ev_FETCH : Exa Z h0 v_FETCH "com/example/sluice/sluice/protocol/ApiKey") (Sv_SHARE_GROUP_DESCRIBE : Sta Z h0 "com/example/sluice/sluice/protocol/ApiKey" "SHARE_GROUP_DESCRIBE" "Lcom/example/sluice/sluice/protocol/ApiKey;" (.ref v_SHARE_GROUP_DESCRIBE)) (Ev_SHARE_GROUP_DESCRIBE : Exa Z h0 v_SHARE_GROUP_DESCRIBE "com/example/sluice/sluice/protocol/ApiKey") (Sv_DESCRIBE_SHARE_GROUP_OFFSETS : Sta Z h0 "com/example/sluice/sluice/protocol/ApiKey" "DESCRIBE_SHARE_GROUP_OFFSETS" "Lcom/example/sluice/sluice/protocol/ApiKey;" (.ref v_DESCRIBE_SHARE_GROUP_OFFSETS)) (Ev_DESCRIBE_SHARE_GROUP_OFFSETS : Exa Z h0 v_DESCRIBE_SHARE_GROUP_OFFSETS "com/example/sluice/sluice/protocol/ApiKey") (Sv_API_VERSIONS : Sta Z h0 "com/example/sluice/sluice/protocol/ApiKey" "API_VERSIONS" "Lcom/example/sluice/sluice/protocol/ApiKey;" (.ref v_API_VERSIONS)) (Ev_API_VERSIONS : Exa Z h0 v_API_VERSIONS "com/example/sluice/sluice/protocol/ApiKey") (Sv_SHARE_GROUP_HEARTBEAT : Sta Z h0 "com/example/sluice/sluice/protocol/ApiKey" "SHARE_GROUP_HEARTBEAT" "Lcom/example/sluice/sluice/protocol/ApiKey;" (.ref v_SHARE_GROUP_HEARTBEAT)) (Ev_SHARE_GROUP_HEARTBEAT : Exa Z h0 v_SHARE_GROUP_HEARTBEAT "com/example/sluice/sluice/protocol/ApiKey") (Sv_METADATA : Sta Z h0 "com/example/sluice/sluice/protocol/ApiKey" "METADATA" "Lcom/example/sluice/sluice/protocol/ApiKey;" (.ref v_METADATA)) (Ev_METADATA : Exa Z h0 v_METADATA "com/example/sluice/sluice/protocol/ApiKey") (Sv_SHARE_ACKNOWLEDGE : Sta Z h0 "com/example/sluice/sluice/protocol/ApiKey" "SHARE_ACKNOWLEDGE" "Lcom/example/sluice/sluice/protocol/ApiKey;" (.ref v_SHARE_ACKNOWLEDGE)) (Ev_SHARE_ACKNOWLEDGE : Exa Z h0 v_SHARE_ACKNOWLEDGE "com/example/sluice/sluice/protocol/ApiKey") (Sv_FIND_COORDINATOR : Sta Z h0 "com/example/sluice/sluice/protocol/ApiKey" "FIND_COORDINATOR" "Lcom/example/sluice/sluice/protocol/ApiKey;" (.ref v_FIND_COORDINATOR)) (Ev_FIND_COORDINATOR : Exa Z h0 v_FIND_COORDINATOR "com/example/sluice/sluice/protocol/ApiKey") (Sv_LIST_GROUPS : Sta Z h0 "com/example/sluice/sluice/protocol/ApiKey" "LIST_GROUPS" "Lcom/example/sluice/sluice/protocol/ApiKey;" (.ref v_LIST_GROUPS)) (Ev_LIST_GROUPS : Exa Z h0 v_LIST_GROUPS "com/example/sluice/sluice/protocol/ApiKey") (Sv_LIST_OFFSETS : Sta Z h0 "com/example/sluice/sluice/protocol/ApiKey" "LIST_OFFSETS" "Lcom/example/sluice/sluice/protocol/ApiKey;" (.ref v_LIST_OFFSETS)) (Ev_LIST_OFFSETS : Exa Z h0 v_LIST_OFFSETS "com/example/sluice/sluice/protocol/ApiKey") (Sv_SHARE_FETCH : Sta Z h0 "com/example/sluice/sluice/protocol/ApiKey" "SHARE_FETCH" "Lcom/example/sluice/sluice/protocol/ApiKey;" (.ref v_SHARE_FETCH)) (Ev_SHARE_FETCH : Exa Z h0 v_SHARE_FETCH "com/example/sluice/sluice/protocol/ApiKey") (Fv_PRODUCE_minVersion : Fld Z h0 v_PRODUCE "com/example/sluice/sluice/protocol/ApiKey" "minVersion" "S" (.int (3 : Int32))) (Fv_PRODUCE_maxVersion : Fld Z h0 v_PRODUCE "com/example/sluice/sluice/protocol/ApiKey" "maxVersion" "S" (.int (7 : Int32))) (Fv_FETCH_minVersion : Fld Z h0 v_FETCH "com/example/sluice/sluice/protocol/ApiKey" "minVersion" "S" (.int (4 : Int32))) (Fv_SHARE_GROUP_DESCRIBE_minVersion : Fld Z h0 v_SHARE_GROUP_DESCRIBE "com/example/sluice/sluice/protocol/ApiKey" "minVersion" "S" (.int (1 : Int32))) (Fv_SHARE_GROUP_DESCRIBE_maxVersion : Fld Z h0 v_SHARE_GROUP_DESCRIBE "com/example/sluice/sluice/protocol/ApiKey" "maxVersion" "S" (.int (1 : Int32))) (Fv_DESCRIBE_SHARE_GROUP_OFFSETS_minVersion : Fld Z h0 v_DESCRIBE_SHARE_GROUP_OFFSETS "com/example/sluice/sluice/protocol/ApiKey" "minVersion" "S" (.int (0 : Int32))) (Fv_API_VERSIONS_minVersion : Fld Z h0 v_API_VERSIONS "com/example/sluice/sluice/protocol/ApiKey" "minVersion" "S" (.int (0 : Int32))) (Fv_SHARE_GROUP_HEARTBEAT_minVersion : Fld Z h0 v_SHARE_GROUP_HEARTBEAT "com/example/sluice/sluice/protocol/ApiKey" "minVersion" "S" (.int (1 : Int32))) (Fv_SHARE_GROUP_HEARTBEAT_maxVersion : Fld Z h0 v_SHARE_GROUP_HEARTBEAT "com/example/sluice/sluice/protocol/ApiKey" "maxVersion" "S" (.int (1 : Int32))) (Fv_METADATA_minVersion : Fld Z h0 v_METADATA "com/example/sluice/sluice/protocol/ApiKey" "minVersion" "S" (.int (0 : Int32))) (Fv_SHARE_ACKNOWLEDGE_minVersion : Fld Z h0 v_SHARE_ACKNOWLEDGE "com/example/sluice/sluice/protocol/ApiKey" "minVersion" "S" (.int (1 : Int32))) (Fv_SHARE_ACKNOWLEDGE_maxVersion : Fld Z h0 v_SHARE_ACKNOWLEDGE "com/example/sluice/sluice/protocol/ApiKey" "maxVersion" "S" (.int (1 : Int32))) (Fv_FIND_COORDINATOR_minVersion : Fld Z h0 v_FIND_COORDINATOR "com/example/sluice/sluice/protocol/ApiKey" "minVersion" "S" (.int (0 : Int32))) (Fv_FIND_COORDINATOR_maxVersion : Fld Z h0 v_FIND_COORDINATOR "com/example/sluice/sluice/protocol/ApiKey" "maxVersion" "S" (.int (4 : Int32))) (Fv_LIST_GROUPS_minVersion : Fld Z h0 v_LIST_GROUPS "com/example/sluice/sluice/protocol/ApiKey" "minVersion" "S" (.int (5 : Int32))) (Fv_LIST_GROUPS_maxVersion : Fld Z h0 v_LIST_GROUPS "com/example/sluice/sluice/protocol/ApiKey" "maxVersion" "S" (.int (5 : Int32))) (Fv_FETCH_maxVersion : Fld Z h0 v_FETCH "com/example/sluice/sluice/protocol/ApiKey" "maxVersion" "S" (.int (4 : Int32))) (Fv_LIST_OFFSETS_minVersion : Fld Z h0 v_LIST_OFFSETS "com/example/sluice/sluice/protocol/ApiKey" "minVersion" "S" (.int (1 : Int32))) (Fv_LIST_OFFSETS_maxVersion : Fld Z h0 v_LIST_OFFSETS "com/example/sluice/sluice/protocol/ApiKey" "maxVersion" "S" (.int (2 : Int32))) (Fv_METADATA_maxVersion : Fld Z h0 v_METADATA "com/example/sluice/sluice/protocol/ApiKey" "maxVersion" "S" (.int (12 : Int32))) (Fv_SHARE_FETCH_minVersion : Fld Z h0 v_SHARE_FETCH "com/example/sluice/sluice/protocol/ApiKey" "minVersion" "S" (.int (1 : Int32))) (Fv_SHARE_FETCH_maxVersion : Fld Z h0 v_SHARE_FETCH "com/example/sluice/sluice/protocol/ApiKey" "maxVersion" "S" (.int (1 : Int32))) (Fv_API_VERSIONS_maxVersion : Fld Z h0 v_API_VERSIONS "com/example/sluice/sluice/protocol/ApiKey" "maxVersion" "S" (.int (3 : Int32))) (Fv_DESCRIBE_SHARE_GROUP_OFFSETS_maxVersion : Fld Z h0 v_DESCRIBE_SHARE_GROUP_OFFSETS "com/example/sluice/sluice/protocol/ApiKey" "maxVersion" "S" (.int (0 : Int32))) :
    MetFree l (⟨"com/example/sluice/sluice/protocol/ApiKeyServesPinLaw", "pick", "(I)Lcom/example/sluice/sluice/protocol/ApiKey;"⟩ : MethodName) (head1 (Jvm.Cond.code (⟨"com/example/sluice/sluice/protocol/ApiKeyServesPinLaw", "pick", "(I)Lcom/example/sluice/sluice/protocol/ApiKey;"⟩ : MethodName) method_2_code 1 (some (.object "com/example/sluice/sluice/protocol/ApiKey")) :: ws) ({ frames := 0, cells := 0, slots := 0, locals := 0 } : Room)) (fun a U => a = #[(.int p0)] ∧ Z.Warmed39 U.vm ∧ U.heap = h0) (fun _ _ _ _ _ => True) (fun _ U o U' => ∃ v L, o = .returned v ∧ Q3 Z p0 v_PRODUCE v_FETCH v_SHARE_GROUP_DESCRIBE v_DESCRIBE_SHARE_GROUP_OFFSETS v_API_VERSIONS v_SHARE_GROUP_HEARTBEAT v_METADATA v_SHARE_ACKNOWLEDGE v_FIND_COORDINATOR v_LIST_GROUPS v_LIST_OFFSETS v_SHARE_FETCH h0 n0 v U'.heap L ∧ FrameEnd U o U' L ({ frames := 0, cells := 0, slots := 0, locals := 0 } : Room).cells ({ frames := 0, cells := 0, slots := 0, locals := 0 } : Room).slots) := by
  refine MetFree.of_bodySF (plainFor_of_name pn_ApiKeyServesPinLaw) hisR ?_
  intro p e s m args below meth c s₁ Bd hml0 hP hK
  obtain ⟨rfl, hZ, hh⟩ := hP
  have hx := Bd.exec
  have hby := Bd.bytes
  have hml : c.maxLocals = 1 := hml0
  have hown : s.vm.findClass "com/example/sluice/sluice/protocol/ApiKeyServesPinLaw" = some m.cls := findClass_of_methodNamed Bd.named
  have hnm := (name_of_methodNamed Bd.named Bd.method).1
  have X0 : Stand p l e ({ frames := 0, cells := 0, slots := 0, locals := 0 } : Room) s m #[(.int p0)] below meth c s₁ [] 0 0 := Stand.of_body Bd
  have e0 : s₁.heap = h0 := by rw [← hh, Bd.state]; rfl
  have N0 := Fr.nil n0
  have pre0 : ∀ t, Steps p.tables e below (s₁.setTop (mkF m 0 #[.val (.int p0)] [])) t → Steps p.tables e below (s₁.setTop (entryFrame m #[(.int p0)] 1)) t := fun t k => castTop (ef3 m p0) k
  have S37 : ∀ t, Steps p.tables e below (s₁.setTop (mkF m 1 #[.val (.int p0)] [(.int p0)])) t → Steps p.tables e below (s₁.setTop (entryFrame m #[(.int p0)] 1)) t := by
    intro t kt
    refine pre0 _ ?_
    show Steps p.tables e below (s₁.setTop (mkF m 0 #[.val (.int p0)] [])) _
    refine XS.iloadN X0.here hx rfl (hb hby d3_0) rfl ?_
    exact kt
  by_cases hc1_38 : p0 = 0
  case pos =>
    obtain ⟨T39, X39, e39, st39⟩ := getS2 X0 hx hZ hown (host := "") (Or.inl (hw _ (List.mem_of_getElem? (i := 11) rfl))) Via.refl e0 Sv_PRODUCE (g := (mkF m 4 #[.val (.int p0)] [])) rfl (hb hby d3_4)
    obtain ⟨fs, hrT, hrunT, hendT, hWT, hsameT⟩ := X39.leave (v := some (.ref v_PRODUCE)) (fun h => by rw [Bd.returns] at h; cases h)
    refine ⟨_, _, S37 _ ?_, hrunT, hendT, _, _, rfl, ?_, ⟨_, rfl⟩, hWT, hsameT.mono (by decide) (by decide)⟩
    · show Steps p.tables e below (s₁.setTop (mkF m 1 #[.val (.int p0)] [(.int p0)])) _
      refine XS.ifNo X0.here hx rfl (hb hby d3_1) rfl (XT.i0_ne_f hc1_38) ?_
      show Steps p.tables e below (s₁.setTop (mkF m 4 #[.val (.int p0)] [])) _
      refine st39 _ ?_
      show Steps p.tables e below (T39.setTop (mkF m 7 #[.val (.int p0)] [(.ref v_PRODUCE)])) _
      exact retOut X39 hx Bd.returns rfl (by right; right; right; right; exact ⟨rfl, rfl, rfl⟩) (hb hby d3_7) hrT
    · show Q3 Z p0 v_PRODUCE v_FETCH v_SHARE_GROUP_DESCRIBE v_DESCRIBE_SHARE_GROUP_OFFSETS v_API_VERSIONS v_SHARE_GROUP_HEARTBEAT v_METADATA v_SHARE_ACKNOWLEDGE v_FIND_COORDINATOR v_LIST_GROUPS v_LIST_OFFSETS v_SHARE_FETCH h0 n0 _ T39.heap _
      rw [e39]
      exact ⟨v_PRODUCE, rfl, N0, rfl, Ev_PRODUCE, (by rw [(by rw [hc1_38]; decide : f_lo p0 = (3 : Int32))]; exact Fv_PRODUCE_minVersion), (by rw [(by rw [hc1_38]; decide : f_hi p0 = (7 : Int32))]; exact Fv_PRODUCE_maxVersion)⟩
  case neg =>
    have S40 : ∀ t, Steps p.tables e below (s₁.setTop (mkF m 10 #[.val (.int p0)] [(.int (1 : Int32)), (.int p0)])) t → Steps p.tables e below (s₁.setTop (entryFrame m #[(.int p0)] 1)) t := by
      intro t kt
      refine S37 _ ?_
      show Steps p.tables e below (s₁.setTop (mkF m 1 #[.val (.int p0)] [(.int p0)])) _
      refine XS.ifYes X0.here hx rfl (pc0 := 1) (pc' := 8) rfl (hb hby d3_1) rfl (XT.i0_ne_t hc1_38) (by decide) (by decide) ?_
      show Steps p.tables e below (s₁.setTop (mkF m 8 #[.val (.int p0)] [])) _
      refine XS.iloadN X0.here hx rfl (hb hby d3_8) rfl ?_
      show Steps p.tables e below (s₁.setTop (mkF m 9 #[.val (.int p0)] [(.int p0)])) _
      refine XS.iconst X0.here hx rfl (hb hby d3_9) ?_
      exact kt
    by_cases hc10_41 : p0 = (1 : Int32)
    case pos =>
      obtain ⟨T42, X42, e42, st42⟩ := getS2 X0 hx hZ hown (host := "") (Or.inl (hw _ (List.mem_of_getElem? (i := 23) rfl))) Via.refl e0 Sv_FETCH (g := (mkF m 13 #[.val (.int p0)] [])) rfl (hb hby d3_13)
      obtain ⟨fs, hrT, hrunT, hendT, hWT, hsameT⟩ := X42.leave (v := some (.ref v_FETCH)) (fun h => by rw [Bd.returns] at h; cases h)
      refine ⟨_, _, S40 _ ?_, hrunT, hendT, _, _, rfl, ?_, ⟨_, rfl⟩, hWT, hsameT.mono (by decide) (by decide)⟩
      · show Steps p.tables e below (s₁.setTop (mkF m 10 #[.val (.int p0)] [(.int (1 : Int32)), (.int p0)])) _
        refine XS.icmpNo X0.here hx rfl (hb hby d3_10) rfl (XT.ii_ne_f hc10_41) ?_
        show Steps p.tables e below (s₁.setTop (mkF m 13 #[.val (.int p0)] [])) _
        refine st42 _ ?_
        show Steps p.tables e below (T42.setTop (mkF m 16 #[.val (.int p0)] [(.ref v_FETCH)])) _
        exact retOut X42 hx Bd.returns rfl (by right; right; right; right; exact ⟨rfl, rfl, rfl⟩) (hb hby d3_16) hrT
      · show Q3 Z p0 v_PRODUCE v_FETCH v_SHARE_GROUP_DESCRIBE v_DESCRIBE_SHARE_GROUP_OFFSETS v_API_VERSIONS v_SHARE_GROUP_HEARTBEAT v_METADATA v_SHARE_ACKNOWLEDGE v_FIND_COORDINATOR v_LIST_GROUPS v_LIST_OFFSETS v_SHARE_FETCH h0 n0 _ T42.heap _
        rw [e42]
        exact ⟨v_FETCH, rfl, N0, rfl, Ev_FETCH, (by rw [(by rw [hc10_41]; decide : f_lo p0 = (4 : Int32))]; exact Fv_FETCH_minVersion), (by rw [(by rw [hc10_41]; decide : f_hi p0 = (4 : Int32))]; exact Fv_FETCH_maxVersion)⟩
    case neg =>
      have S43 : ∀ t, Steps p.tables e below (s₁.setTop (mkF m 19 #[.val (.int p0)] [(.int (2 : Int32)), (.int p0)])) t → Steps p.tables e below (s₁.setTop (entryFrame m #[(.int p0)] 1)) t := by
        intro t kt
        refine S40 _ ?_
        show Steps p.tables e below (s₁.setTop (mkF m 10 #[.val (.int p0)] [(.int (1 : Int32)), (.int p0)])) _
        refine XS.icmpYes X0.here hx rfl (pc0 := 10) (pc' := 17) rfl (hb hby d3_10) rfl (XT.ii_ne_t hc10_41) (by decide) (by decide) ?_
        show Steps p.tables e below (s₁.setTop (mkF m 17 #[.val (.int p0)] [])) _
        refine XS.iloadN X0.here hx rfl (hb hby d3_17) rfl ?_
        show Steps p.tables e below (s₁.setTop (mkF m 18 #[.val (.int p0)] [(.int p0)])) _
        refine XS.iconst X0.here hx rfl (hb hby d3_18) ?_
        exact kt
      by_cases hc19_44 : p0 = (2 : Int32)
      case pos =>
        obtain ⟨T45, X45, e45, st45⟩ := getS2 X0 hx hZ hown (host := "") (Or.inl (hw _ (List.mem_of_getElem? (i := 41) rfl))) Via.refl e0 Sv_LIST_OFFSETS (g := (mkF m 22 #[.val (.int p0)] [])) rfl (hb hby d3_22)
        obtain ⟨fs, hrT, hrunT, hendT, hWT, hsameT⟩ := X45.leave (v := some (.ref v_LIST_OFFSETS)) (fun h => by rw [Bd.returns] at h; cases h)
        refine ⟨_, _, S43 _ ?_, hrunT, hendT, _, _, rfl, ?_, ⟨_, rfl⟩, hWT, hsameT.mono (by decide) (by decide)⟩
        · show Steps p.tables e below (s₁.setTop (mkF m 19 #[.val (.int p0)] [(.int (2 : Int32)), (.int p0)])) _
          refine XS.icmpNo X0.here hx rfl (hb hby d3_19) rfl (XT.ii_ne_f hc19_44) ?_
          show Steps p.tables e below (s₁.setTop (mkF m 22 #[.val (.int p0)] [])) _
          refine st45 _ ?_
          show Steps p.tables e below (T45.setTop (mkF m 25 #[.val (.int p0)] [(.ref v_LIST_OFFSETS)])) _
          exact retOut X45 hx Bd.returns rfl (by right; right; right; right; exact ⟨rfl, rfl, rfl⟩) (hb hby d3_25) hrT
        · show Q3 Z p0 v_PRODUCE v_FETCH v_SHARE_GROUP_DESCRIBE v_DESCRIBE_SHARE_GROUP_OFFSETS v_API_VERSIONS v_SHARE_GROUP_HEARTBEAT v_METADATA v_SHARE_ACKNOWLEDGE v_FIND_COORDINATOR v_LIST_GROUPS v_LIST_OFFSETS v_SHARE_FETCH h0 n0 _ T45.heap _
          rw [e45]
          exact ⟨v_LIST_OFFSETS, rfl, N0, rfl, Ev_LIST_OFFSETS, (by rw [(by rw [hc19_44]; decide : f_lo p0 = (1 : Int32))]; exact Fv_LIST_OFFSETS_minVersion), (by rw [(by rw [hc19_44]; decide : f_hi p0 = (2 : Int32))]; exact Fv_LIST_OFFSETS_maxVersion)⟩
      case neg =>
        have S46 : ∀ t, Steps p.tables e below (s₁.setTop (mkF m 28 #[.val (.int p0)] [(.int (3 : Int32)), (.int p0)])) t → Steps p.tables e below (s₁.setTop (entryFrame m #[(.int p0)] 1)) t := by
          intro t kt
          refine S43 _ ?_
          show Steps p.tables e below (s₁.setTop (mkF m 19 #[.val (.int p0)] [(.int (2 : Int32)), (.int p0)])) _
          refine XS.icmpYes X0.here hx rfl (pc0 := 19) (pc' := 26) rfl (hb hby d3_19) rfl (XT.ii_ne_t hc19_44) (by decide) (by decide) ?_
          show Steps p.tables e below (s₁.setTop (mkF m 26 #[.val (.int p0)] [])) _
          refine XS.iloadN X0.here hx rfl (hb hby d3_26) rfl ?_
          show Steps p.tables e below (s₁.setTop (mkF m 27 #[.val (.int p0)] [(.int p0)])) _
          refine XS.iconst X0.here hx rfl (hb hby d3_27) ?_
          exact kt
        by_cases hc28_47 : p0 = (3 : Int32)
        case pos =>
          obtain ⟨T48, X48, e48, st48⟩ := getS2 X0 hx hZ hown (host := "") (Or.inl (hw _ (List.mem_of_getElem? (i := 33) rfl))) Via.refl e0 Sv_METADATA (g := (mkF m 31 #[.val (.int p0)] [])) rfl (hb hby d3_31)
          obtain ⟨fs, hrT, hrunT, hendT, hWT, hsameT⟩ := X48.leave (v := some (.ref v_METADATA)) (fun h => by rw [Bd.returns] at h; cases h)
          refine ⟨_, _, S46 _ ?_, hrunT, hendT, _, _, rfl, ?_, ⟨_, rfl⟩, hWT, hsameT.mono (by decide) (by decide)⟩
          · show Steps p.tables e below (s₁.setTop (mkF m 28 #[.val (.int p0)] [(.int (3 : Int32)), (.int p0)])) _
            refine XS.icmpNo X0.here hx rfl (hb hby d3_28) rfl (XT.ii_ne_f hc28_47) ?_
            show Steps p.tables e below (s₁.setTop (mkF m 31 #[.val (.int p0)] [])) _
            refine st48 _ ?_
            show Steps p.tables e below (T48.setTop (mkF m 34 #[.val (.int p0)] [(.ref v_METADATA)])) _
            exact retOut X48 hx Bd.returns rfl (by right; right; right; right; exact ⟨rfl, rfl, rfl⟩) (hb hby d3_34) hrT
          · show Q3 Z p0 v_PRODUCE v_FETCH v_SHARE_GROUP_DESCRIBE v_DESCRIBE_SHARE_GROUP_OFFSETS v_API_VERSIONS v_SHARE_GROUP_HEARTBEAT v_METADATA v_SHARE_ACKNOWLEDGE v_FIND_COORDINATOR v_LIST_GROUPS v_LIST_OFFSETS v_SHARE_FETCH h0 n0 _ T48.heap _
            rw [e48]
            exact ⟨v_METADATA, rfl, N0, rfl, Ev_METADATA, (by rw [(by rw [hc28_47]; decide : f_lo p0 = (0 : Int32))]; exact Fv_METADATA_minVersion), (by rw [(by rw [hc28_47]; decide : f_hi p0 = (12 : Int32))]; exact Fv_METADATA_maxVersion)⟩
        case neg =>
          have S49 : ∀ t, Steps p.tables e below (s₁.setTop (mkF m 37 #[.val (.int p0)] [(.int (4 : Int32)), (.int p0)])) t → Steps p.tables e below (s₁.setTop (entryFrame m #[(.int p0)] 1)) t := by
            intro t kt
            refine S46 _ ?_
            show Steps p.tables e below (s₁.setTop (mkF m 28 #[.val (.int p0)] [(.int (3 : Int32)), (.int p0)])) _
            refine XS.icmpYes X0.here hx rfl (pc0 := 28) (pc' := 35) rfl (hb hby d3_28) rfl (XT.ii_ne_t hc28_47) (by decide) (by decide) ?_
            show Steps p.tables e below (s₁.setTop (mkF m 35 #[.val (.int p0)] [])) _
            refine XS.iloadN X0.here hx rfl (hb hby d3_35) rfl ?_
            show Steps p.tables e below (s₁.setTop (mkF m 36 #[.val (.int p0)] [(.int p0)])) _
            refine XS.iconst X0.here hx rfl (hb hby d3_36) ?_
            exact kt
          by_cases hc37_50 : p0 = (4 : Int32)
          case pos =>
            obtain ⟨T51, X51, e51, st51⟩ := getS2 X0 hx hZ hown (host := "") (Or.inl (hw _ (List.mem_of_getElem? (i := 37) rfl))) Via.refl e0 Sv_FIND_COORDINATOR (g := (mkF m 40 #[.val (.int p0)] [])) rfl (hb hby d3_40)
            obtain ⟨fs, hrT, hrunT, hendT, hWT, hsameT⟩ := X51.leave (v := some (.ref v_FIND_COORDINATOR)) (fun h => by rw [Bd.returns] at h; cases h)
            refine ⟨_, _, S49 _ ?_, hrunT, hendT, _, _, rfl, ?_, ⟨_, rfl⟩, hWT, hsameT.mono (by decide) (by decide)⟩
            · show Steps p.tables e below (s₁.setTop (mkF m 37 #[.val (.int p0)] [(.int (4 : Int32)), (.int p0)])) _
              refine XS.icmpNo X0.here hx rfl (hb hby d3_37) rfl (XT.ii_ne_f hc37_50) ?_
              show Steps p.tables e below (s₁.setTop (mkF m 40 #[.val (.int p0)] [])) _
              refine st51 _ ?_
              show Steps p.tables e below (T51.setTop (mkF m 43 #[.val (.int p0)] [(.ref v_FIND_COORDINATOR)])) _
              exact retOut X51 hx Bd.returns rfl (by right; right; right; right; exact ⟨rfl, rfl, rfl⟩) (hb hby d3_43) hrT
            · show Q3 Z p0 v_PRODUCE v_FETCH v_SHARE_GROUP_DESCRIBE v_DESCRIBE_SHARE_GROUP_OFFSETS v_API_VERSIONS v_SHARE_GROUP_HEARTBEAT v_METADATA v_SHARE_ACKNOWLEDGE v_FIND_COORDINATOR v_LIST_GROUPS v_LIST_OFFSETS v_SHARE_FETCH h0 n0 _ T51.heap _
              rw [e51]
              exact ⟨v_FIND_COORDINATOR, rfl, N0, rfl, Ev_FIND_COORDINATOR, (by rw [(by rw [hc37_50]; decide : f_lo p0 = (0 : Int32))]; exact Fv_FIND_COORDINATOR_minVersion), (by rw [(by rw [hc37_50]; decide : f_hi p0 = (4 : Int32))]; exact Fv_FIND_COORDINATOR_maxVersion)⟩
          case neg =>
            have S52 : ∀ t, Steps p.tables e below (s₁.setTop (mkF m 46 #[.val (.int p0)] [(.int (5 : Int32)), (.int p0)])) t → Steps p.tables e below (s₁.setTop (entryFrame m #[(.int p0)] 1)) t := by
              intro t kt
              refine S49 _ ?_
              show Steps p.tables e below (s₁.setTop (mkF m 37 #[.val (.int p0)] [(.int (4 : Int32)), (.int p0)])) _
              refine XS.icmpYes X0.here hx rfl (pc0 := 37) (pc' := 44) rfl (hb hby d3_37) rfl (XT.ii_ne_t hc37_50) (by decide) (by decide) ?_
              show Steps p.tables e below (s₁.setTop (mkF m 44 #[.val (.int p0)] [])) _
              refine XS.iloadN X0.here hx rfl (hb hby d3_44) rfl ?_
              show Steps p.tables e below (s₁.setTop (mkF m 45 #[.val (.int p0)] [(.int p0)])) _
              refine XS.iconst X0.here hx rfl (hb hby d3_45) ?_
              exact kt
            by_cases hc46_53 : p0 = (5 : Int32)
            case pos =>
              obtain ⟨T54, X54, e54, st54⟩ := getS2 X0 hx hZ hown (host := "") (Or.inl (hw _ (List.mem_of_getElem? (i := 39) rfl))) Via.refl e0 Sv_LIST_GROUPS (g := (mkF m 49 #[.val (.int p0)] [])) rfl (hb hby d3_49)
              obtain ⟨fs, hrT, hrunT, hendT, hWT, hsameT⟩ := X54.leave (v := some (.ref v_LIST_GROUPS)) (fun h => by rw [Bd.returns] at h; cases h)
              refine ⟨_, _, S52 _ ?_, hrunT, hendT, _, _, rfl, ?_, ⟨_, rfl⟩, hWT, hsameT.mono (by decide) (by decide)⟩
              · show Steps p.tables e below (s₁.setTop (mkF m 46 #[.val (.int p0)] [(.int (5 : Int32)), (.int p0)])) _
                refine XS.icmpNo X0.here hx rfl (hb hby d3_46) rfl (XT.ii_ne_f hc46_53) ?_
                show Steps p.tables e below (s₁.setTop (mkF m 49 #[.val (.int p0)] [])) _
                refine st54 _ ?_
                show Steps p.tables e below (T54.setTop (mkF m 52 #[.val (.int p0)] [(.ref v_LIST_GROUPS)])) _
                exact retOut X54 hx Bd.returns rfl (by right; right; right; right; exact ⟨rfl, rfl, rfl⟩) (hb hby d3_52) hrT
              · show Q3 Z p0 v_PRODUCE v_FETCH v_SHARE_GROUP_DESCRIBE v_DESCRIBE_SHARE_GROUP_OFFSETS v_API_VERSIONS v_SHARE_GROUP_HEARTBEAT v_METADATA v_SHARE_ACKNOWLEDGE v_FIND_COORDINATOR v_LIST_GROUPS v_LIST_OFFSETS v_SHARE_FETCH h0 n0 _ T54.heap _
                rw [e54]
                exact ⟨v_LIST_GROUPS, rfl, N0, rfl, Ev_LIST_GROUPS, (by rw [(by rw [hc46_53]; decide : f_lo p0 = (5 : Int32))]; exact Fv_LIST_GROUPS_minVersion), (by rw [(by rw [hc46_53]; decide : f_hi p0 = (5 : Int32))]; exact Fv_LIST_GROUPS_maxVersion)⟩
            case neg =>
              have S55 : ∀ t, Steps p.tables e below (s₁.setTop (mkF m 56 #[.val (.int p0)] [(.int (6 : Int32)), (.int p0)])) t → Steps p.tables e below (s₁.setTop (entryFrame m #[(.int p0)] 1)) t := by
                intro t kt
                refine S52 _ ?_
                show Steps p.tables e below (s₁.setTop (mkF m 46 #[.val (.int p0)] [(.int (5 : Int32)), (.int p0)])) _
                refine XS.icmpYes X0.here hx rfl (pc0 := 46) (pc' := 53) rfl (hb hby d3_46) rfl (XT.ii_ne_t hc46_53) (by decide) (by decide) ?_
                show Steps p.tables e below (s₁.setTop (mkF m 53 #[.val (.int p0)] [])) _
                refine XS.iloadN X0.here hx rfl (hb hby d3_53) rfl ?_
                show Steps p.tables e below (s₁.setTop (mkF m 54 #[.val (.int p0)] [(.int p0)])) _
                refine XS.bipush X0.here hx rfl (hb hby d3_54) ?_
                exact kt
              by_cases hc56_56 : p0 = (6 : Int32)
              case pos =>
                obtain ⟨T57, X57, e57, st57⟩ := getS2 X0 hx hZ hown (host := "") (Or.inl (hw _ (List.mem_of_getElem? (i := 29) rfl))) Via.refl e0 Sv_API_VERSIONS (g := (mkF m 59 #[.val (.int p0)] [])) rfl (hb hby d3_59)
                obtain ⟨fs, hrT, hrunT, hendT, hWT, hsameT⟩ := X57.leave (v := some (.ref v_API_VERSIONS)) (fun h => by rw [Bd.returns] at h; cases h)
                refine ⟨_, _, S55 _ ?_, hrunT, hendT, _, _, rfl, ?_, ⟨_, rfl⟩, hWT, hsameT.mono (by decide) (by decide)⟩
                · show Steps p.tables e below (s₁.setTop (mkF m 56 #[.val (.int p0)] [(.int (6 : Int32)), (.int p0)])) _
                  refine XS.icmpNo X0.here hx rfl (hb hby d3_56) rfl (XT.ii_ne_f hc56_56) ?_
                  show Steps p.tables e below (s₁.setTop (mkF m 59 #[.val (.int p0)] [])) _
                  refine st57 _ ?_
                  show Steps p.tables e below (T57.setTop (mkF m 62 #[.val (.int p0)] [(.ref v_API_VERSIONS)])) _
                  exact retOut X57 hx Bd.returns rfl (by right; right; right; right; exact ⟨rfl, rfl, rfl⟩) (hb hby d3_62) hrT
                · show Q3 Z p0 v_PRODUCE v_FETCH v_SHARE_GROUP_DESCRIBE v_DESCRIBE_SHARE_GROUP_OFFSETS v_API_VERSIONS v_SHARE_GROUP_HEARTBEAT v_METADATA v_SHARE_ACKNOWLEDGE v_FIND_COORDINATOR v_LIST_GROUPS v_LIST_OFFSETS v_SHARE_FETCH h0 n0 _ T57.heap _
                  rw [e57]
                  exact ⟨v_API_VERSIONS, rfl, N0, rfl, Ev_API_VERSIONS, (by rw [(by rw [hc56_56]; decide : f_lo p0 = (0 : Int32))]; exact Fv_API_VERSIONS_minVersion), (by rw [(by rw [hc56_56]; decide : f_hi p0 = (3 : Int32))]; exact Fv_API_VERSIONS_maxVersion)⟩
              case neg =>
                have S58 : ∀ t, Steps p.tables e below (s₁.setTop (mkF m 66 #[.val (.int p0)] [(.int (7 : Int32)), (.int p0)])) t → Steps p.tables e below (s₁.setTop (entryFrame m #[(.int p0)] 1)) t := by
                  intro t kt
                  refine S55 _ ?_
                  show Steps p.tables e below (s₁.setTop (mkF m 56 #[.val (.int p0)] [(.int (6 : Int32)), (.int p0)])) _
                  refine XS.icmpYes X0.here hx rfl (pc0 := 56) (pc' := 63) rfl (hb hby d3_56) rfl (XT.ii_ne_t hc56_56) (by decide) (by decide) ?_
                  show Steps p.tables e below (s₁.setTop (mkF m 63 #[.val (.int p0)] [])) _
                  refine XS.iloadN X0.here hx rfl (hb hby d3_63) rfl ?_
                  show Steps p.tables e below (s₁.setTop (mkF m 64 #[.val (.int p0)] [(.int p0)])) _
                  refine XS.bipush X0.here hx rfl (hb hby d3_64) ?_
                  exact kt
                by_cases hc66_59 : p0 = (7 : Int32)
                case pos =>
                  obtain ⟨T60, X60, e60, st60⟩ := getS2 X0 hx hZ hown (host := "") (Or.inl (hw _ (List.mem_of_getElem? (i := 31) rfl))) Via.refl e0 Sv_SHARE_GROUP_HEARTBEAT (g := (mkF m 69 #[.val (.int p0)] [])) rfl (hb hby d3_69)
                  obtain ⟨fs, hrT, hrunT, hendT, hWT, hsameT⟩ := X60.leave (v := some (.ref v_SHARE_GROUP_HEARTBEAT)) (fun h => by rw [Bd.returns] at h; cases h)
                  refine ⟨_, _, S58 _ ?_, hrunT, hendT, _, _, rfl, ?_, ⟨_, rfl⟩, hWT, hsameT.mono (by decide) (by decide)⟩
                  · show Steps p.tables e below (s₁.setTop (mkF m 66 #[.val (.int p0)] [(.int (7 : Int32)), (.int p0)])) _
                    refine XS.icmpNo X0.here hx rfl (hb hby d3_66) rfl (XT.ii_ne_f hc66_59) ?_
                    show Steps p.tables e below (s₁.setTop (mkF m 69 #[.val (.int p0)] [])) _
                    refine st60 _ ?_
                    show Steps p.tables e below (T60.setTop (mkF m 72 #[.val (.int p0)] [(.ref v_SHARE_GROUP_HEARTBEAT)])) _
                    exact retOut X60 hx Bd.returns rfl (by right; right; right; right; exact ⟨rfl, rfl, rfl⟩) (hb hby d3_72) hrT
                  · show Q3 Z p0 v_PRODUCE v_FETCH v_SHARE_GROUP_DESCRIBE v_DESCRIBE_SHARE_GROUP_OFFSETS v_API_VERSIONS v_SHARE_GROUP_HEARTBEAT v_METADATA v_SHARE_ACKNOWLEDGE v_FIND_COORDINATOR v_LIST_GROUPS v_LIST_OFFSETS v_SHARE_FETCH h0 n0 _ T60.heap _
                    rw [e60]
                    exact ⟨v_SHARE_GROUP_HEARTBEAT, rfl, N0, rfl, Ev_SHARE_GROUP_HEARTBEAT, (by rw [(by rw [hc66_59]; decide : f_lo p0 = (1 : Int32))]; exact Fv_SHARE_GROUP_HEARTBEAT_minVersion), (by rw [(by rw [hc66_59]; decide : f_hi p0 = (1 : Int32))]; exact Fv_SHARE_GROUP_HEARTBEAT_maxVersion)⟩
                case neg =>
                  have S61 : ∀ t, Steps p.tables e below (s₁.setTop (mkF m 76 #[.val (.int p0)] [(.int (8 : Int32)), (.int p0)])) t → Steps p.tables e below (s₁.setTop (entryFrame m #[(.int p0)] 1)) t := by
                    intro t kt
                    refine S58 _ ?_
                    show Steps p.tables e below (s₁.setTop (mkF m 66 #[.val (.int p0)] [(.int (7 : Int32)), (.int p0)])) _
                    refine XS.icmpYes X0.here hx rfl (pc0 := 66) (pc' := 73) rfl (hb hby d3_66) rfl (XT.ii_ne_t hc66_59) (by decide) (by decide) ?_
                    show Steps p.tables e below (s₁.setTop (mkF m 73 #[.val (.int p0)] [])) _
                    refine XS.iloadN X0.here hx rfl (hb hby d3_73) rfl ?_
                    show Steps p.tables e below (s₁.setTop (mkF m 74 #[.val (.int p0)] [(.int p0)])) _
                    refine XS.bipush X0.here hx rfl (hb hby d3_74) ?_
                    exact kt
                  by_cases hc76_62 : p0 = (8 : Int32)
                  case pos =>
                    obtain ⟨T63, X63, e63, st63⟩ := getS2 X0 hx hZ hown (host := "") (Or.inl (hw _ (List.mem_of_getElem? (i := 25) rfl))) Via.refl e0 Sv_SHARE_GROUP_DESCRIBE (g := (mkF m 79 #[.val (.int p0)] [])) rfl (hb hby d3_79)
                    obtain ⟨fs, hrT, hrunT, hendT, hWT, hsameT⟩ := X63.leave (v := some (.ref v_SHARE_GROUP_DESCRIBE)) (fun h => by rw [Bd.returns] at h; cases h)
                    refine ⟨_, _, S61 _ ?_, hrunT, hendT, _, _, rfl, ?_, ⟨_, rfl⟩, hWT, hsameT.mono (by decide) (by decide)⟩
                    · show Steps p.tables e below (s₁.setTop (mkF m 76 #[.val (.int p0)] [(.int (8 : Int32)), (.int p0)])) _
                      refine XS.icmpNo X0.here hx rfl (hb hby d3_76) rfl (XT.ii_ne_f hc76_62) ?_
                      show Steps p.tables e below (s₁.setTop (mkF m 79 #[.val (.int p0)] [])) _
                      refine st63 _ ?_
                      show Steps p.tables e below (T63.setTop (mkF m 82 #[.val (.int p0)] [(.ref v_SHARE_GROUP_DESCRIBE)])) _
                      exact retOut X63 hx Bd.returns rfl (by right; right; right; right; exact ⟨rfl, rfl, rfl⟩) (hb hby d3_82) hrT
                    · show Q3 Z p0 v_PRODUCE v_FETCH v_SHARE_GROUP_DESCRIBE v_DESCRIBE_SHARE_GROUP_OFFSETS v_API_VERSIONS v_SHARE_GROUP_HEARTBEAT v_METADATA v_SHARE_ACKNOWLEDGE v_FIND_COORDINATOR v_LIST_GROUPS v_LIST_OFFSETS v_SHARE_FETCH h0 n0 _ T63.heap _
                      rw [e63]
                      exact ⟨v_SHARE_GROUP_DESCRIBE, rfl, N0, rfl, Ev_SHARE_GROUP_DESCRIBE, (by rw [(by rw [hc76_62]; decide : f_lo p0 = (1 : Int32))]; exact Fv_SHARE_GROUP_DESCRIBE_minVersion), (by rw [(by rw [hc76_62]; decide : f_hi p0 = (1 : Int32))]; exact Fv_SHARE_GROUP_DESCRIBE_maxVersion)⟩
                  case neg =>
                    have S64 : ∀ t, Steps p.tables e below (s₁.setTop (mkF m 86 #[.val (.int p0)] [(.int (9 : Int32)), (.int p0)])) t → Steps p.tables e below (s₁.setTop (entryFrame m #[(.int p0)] 1)) t := by
                      intro t kt
                      refine S61 _ ?_
                      show Steps p.tables e below (s₁.setTop (mkF m 76 #[.val (.int p0)] [(.int (8 : Int32)), (.int p0)])) _
                      refine XS.icmpYes X0.here hx rfl (pc0 := 76) (pc' := 83) rfl (hb hby d3_76) rfl (XT.ii_ne_t hc76_62) (by decide) (by decide) ?_
                      show Steps p.tables e below (s₁.setTop (mkF m 83 #[.val (.int p0)] [])) _
                      refine XS.iloadN X0.here hx rfl (hb hby d3_83) rfl ?_
                      show Steps p.tables e below (s₁.setTop (mkF m 84 #[.val (.int p0)] [(.int p0)])) _
                      refine XS.bipush X0.here hx rfl (hb hby d3_84) ?_
                      exact kt
                    by_cases hc86_65 : p0 = (9 : Int32)
                    case pos =>
                      obtain ⟨T66, X66, e66, st66⟩ := getS2 X0 hx hZ hown (host := "") (Or.inl (hw _ (List.mem_of_getElem? (i := 43) rfl))) Via.refl e0 Sv_SHARE_FETCH (g := (mkF m 89 #[.val (.int p0)] [])) rfl (hb hby d3_89)
                      obtain ⟨fs, hrT, hrunT, hendT, hWT, hsameT⟩ := X66.leave (v := some (.ref v_SHARE_FETCH)) (fun h => by rw [Bd.returns] at h; cases h)
                      refine ⟨_, _, S64 _ ?_, hrunT, hendT, _, _, rfl, ?_, ⟨_, rfl⟩, hWT, hsameT.mono (by decide) (by decide)⟩
                      · show Steps p.tables e below (s₁.setTop (mkF m 86 #[.val (.int p0)] [(.int (9 : Int32)), (.int p0)])) _
                        refine XS.icmpNo X0.here hx rfl (hb hby d3_86) rfl (XT.ii_ne_f hc86_65) ?_
                        show Steps p.tables e below (s₁.setTop (mkF m 89 #[.val (.int p0)] [])) _
                        refine st66 _ ?_
                        show Steps p.tables e below (T66.setTop (mkF m 92 #[.val (.int p0)] [(.ref v_SHARE_FETCH)])) _
                        exact retOut X66 hx Bd.returns rfl (by right; right; right; right; exact ⟨rfl, rfl, rfl⟩) (hb hby d3_92) hrT
                      · show Q3 Z p0 v_PRODUCE v_FETCH v_SHARE_GROUP_DESCRIBE v_DESCRIBE_SHARE_GROUP_OFFSETS v_API_VERSIONS v_SHARE_GROUP_HEARTBEAT v_METADATA v_SHARE_ACKNOWLEDGE v_FIND_COORDINATOR v_LIST_GROUPS v_LIST_OFFSETS v_SHARE_FETCH h0 n0 _ T66.heap _
                        rw [e66]
                        exact ⟨v_SHARE_FETCH, rfl, N0, rfl, Ev_SHARE_FETCH, (by rw [(by rw [hc86_65]; decide : f_lo p0 = (1 : Int32))]; exact Fv_SHARE_FETCH_minVersion), (by rw [(by rw [hc86_65]; decide : f_hi p0 = (1 : Int32))]; exact Fv_SHARE_FETCH_maxVersion)⟩
                    case neg =>
                      have S67 : ∀ t, Steps p.tables e below (s₁.setTop (mkF m 96 #[.val (.int p0)] [(.int (10 : Int32)), (.int p0)])) t → Steps p.tables e below (s₁.setTop (entryFrame m #[(.int p0)] 1)) t := by
                        intro t kt
                        refine S64 _ ?_
                        show Steps p.tables e below (s₁.setTop (mkF m 86 #[.val (.int p0)] [(.int (9 : Int32)), (.int p0)])) _
                        refine XS.icmpYes X0.here hx rfl (pc0 := 86) (pc' := 93) rfl (hb hby d3_86) rfl (XT.ii_ne_t hc86_65) (by decide) (by decide) ?_
                        show Steps p.tables e below (s₁.setTop (mkF m 93 #[.val (.int p0)] [])) _
                        refine XS.iloadN X0.here hx rfl (hb hby d3_93) rfl ?_
                        show Steps p.tables e below (s₁.setTop (mkF m 94 #[.val (.int p0)] [(.int p0)])) _
                        refine XS.bipush X0.here hx rfl (hb hby d3_94) ?_
                        exact kt
                      by_cases hc96_68 : p0 = (10 : Int32)
                      case pos =>
                        obtain ⟨T69, X69, e69, st69⟩ := getS2 X0 hx hZ hown (host := "") (Or.inl (hw _ (List.mem_of_getElem? (i := 35) rfl))) Via.refl e0 Sv_SHARE_ACKNOWLEDGE (g := (mkF m 99 #[.val (.int p0)] [])) rfl (hb hby d3_99)
                        obtain ⟨fs, hrT, hrunT, hendT, hWT, hsameT⟩ := X69.leave (v := some (.ref v_SHARE_ACKNOWLEDGE)) (fun h => by rw [Bd.returns] at h; cases h)
                        refine ⟨_, _, S67 _ ?_, hrunT, hendT, _, _, rfl, ?_, ⟨_, rfl⟩, hWT, hsameT.mono (by decide) (by decide)⟩
                        · show Steps p.tables e below (s₁.setTop (mkF m 96 #[.val (.int p0)] [(.int (10 : Int32)), (.int p0)])) _
                          refine XS.icmpNo X0.here hx rfl (hb hby d3_96) rfl (XT.ii_ne_f hc96_68) ?_
                          show Steps p.tables e below (s₁.setTop (mkF m 99 #[.val (.int p0)] [])) _
                          refine st69 _ ?_
                          show Steps p.tables e below (T69.setTop (mkF m 102 #[.val (.int p0)] [(.ref v_SHARE_ACKNOWLEDGE)])) _
                          exact retOut X69 hx Bd.returns rfl (by right; right; right; right; exact ⟨rfl, rfl, rfl⟩) (hb hby d3_102) hrT
                        · show Q3 Z p0 v_PRODUCE v_FETCH v_SHARE_GROUP_DESCRIBE v_DESCRIBE_SHARE_GROUP_OFFSETS v_API_VERSIONS v_SHARE_GROUP_HEARTBEAT v_METADATA v_SHARE_ACKNOWLEDGE v_FIND_COORDINATOR v_LIST_GROUPS v_LIST_OFFSETS v_SHARE_FETCH h0 n0 _ T69.heap _
                          rw [e69]
                          exact ⟨v_SHARE_ACKNOWLEDGE, rfl, N0, rfl, Ev_SHARE_ACKNOWLEDGE, (by rw [(by rw [hc96_68]; decide : f_lo p0 = (1 : Int32))]; exact Fv_SHARE_ACKNOWLEDGE_minVersion), (by rw [(by rw [hc96_68]; decide : f_hi p0 = (1 : Int32))]; exact Fv_SHARE_ACKNOWLEDGE_maxVersion)⟩
                      case neg =>
                        obtain ⟨T70, X70, e70, st70⟩ := getS2 X0 hx hZ hown (host := "") (Or.inl (hw _ (List.mem_of_getElem? (i := 27) rfl))) Via.refl e0 Sv_DESCRIBE_SHARE_GROUP_OFFSETS (g := (mkF m 103 #[.val (.int p0)] [])) rfl (hb hby d3_103)
                        obtain ⟨fs, hrT, hrunT, hendT, hWT, hsameT⟩ := X70.leave (v := some (.ref v_DESCRIBE_SHARE_GROUP_OFFSETS)) (fun h => by rw [Bd.returns] at h; cases h)
                        refine ⟨_, _, S67 _ ?_, hrunT, hendT, _, _, rfl, ?_, ⟨_, rfl⟩, hWT, hsameT.mono (by decide) (by decide)⟩
                        · show Steps p.tables e below (s₁.setTop (mkF m 96 #[.val (.int p0)] [(.int (10 : Int32)), (.int p0)])) _
                          refine XS.icmpYes X0.here hx rfl (pc0 := 96) (pc' := 103) rfl (hb hby d3_96) rfl (XT.ii_ne_t hc96_68) (by decide) (by decide) ?_
                          show Steps p.tables e below (s₁.setTop (mkF m 103 #[.val (.int p0)] [])) _
                          refine st70 _ ?_
                          show Steps p.tables e below (T70.setTop (mkF m 106 #[.val (.int p0)] [(.ref v_DESCRIBE_SHARE_GROUP_OFFSETS)])) _
                          exact retOut X70 hx Bd.returns rfl (by right; right; right; right; exact ⟨rfl, rfl, rfl⟩) (hb hby d3_106) hrT
                        · show Q3 Z p0 v_PRODUCE v_FETCH v_SHARE_GROUP_DESCRIBE v_DESCRIBE_SHARE_GROUP_OFFSETS v_API_VERSIONS v_SHARE_GROUP_HEARTBEAT v_METADATA v_SHARE_ACKNOWLEDGE v_FIND_COORDINATOR v_LIST_GROUPS v_LIST_OFFSETS v_SHARE_FETCH h0 n0 _ T70.heap _
                          rw [e70]
                          exact ⟨v_DESCRIBE_SHARE_GROUP_OFFSETS, rfl, N0, rfl, Ev_DESCRIBE_SHARE_GROUP_OFFSETS, (by rw [(by rw [(own_last p0 hr hc1_38 hc10_41 hc19_44 hc28_47 hc37_50 hc46_53 hc56_56 hc66_59 hc76_62 hc86_65 hc96_68)]; decide : f_lo p0 = (0 : Int32))]; exact Fv_DESCRIBE_SHARE_GROUP_OFFSETS_minVersion), (by rw [(by rw [(own_last p0 hr hc1_38 hc10_41 hc19_44 hc28_47 hc37_50 hc46_53 hc56_56 hc66_59 hc76_62 hc86_65 hc96_68)]; decide : f_hi p0 = (0 : Int32))]; exact Fv_DESCRIBE_SHARE_GROUP_OFFSETS_maxVersion)⟩
theorem d4_0 : decode prog_30_method_8_code 0 = .ok (.iload_n 1, 1) := by decide +kernel
theorem d4_1 : decode prog_30_method_8_code 1 = .ok (.aload_n 0, 1) := by decide +kernel
theorem d4_2 : decode prog_30_method_8_code 2 = .ok (.getfield 63, 3) := by decide +kernel
theorem d4_5 : decode prog_30_method_8_code 5 = .ok (.if_icmp .lt 15, 3) := by decide +kernel
theorem d4_20 : decode prog_30_method_8_code 20 = .ok (.iconst 0, 1) := by decide +kernel
theorem d4_21 : decode prog_30_method_8_code 21 = .ok (.ireturn, 1) := by decide +kernel
theorem d4_8 : decode prog_30_method_8_code 8 = .ok (.iload_n 1, 1) := by decide +kernel
theorem d4_9 : decode prog_30_method_8_code 9 = .ok (.aload_n 0, 1) := by decide +kernel
theorem d4_10 : decode prog_30_method_8_code 10 = .ok (.getfield 66, 3) := by decide +kernel
theorem d4_13 : decode prog_30_method_8_code 13 = .ok (.if_icmp .gt 7, 3) := by decide +kernel
theorem d4_16 : decode prog_30_method_8_code 16 = .ok (.iconst 1, 1) := by decide +kernel
theorem d4_17 : decode prog_30_method_8_code 17 = .ok (.goto 4, 3) := by decide +kernel
theorem pn_ApiKey : plainName "com/example/sluice/sluice/protocol/ApiKey" = true := by first | (simp [plainName, overriddenIn]; done) | decide +kernel
def f_is (p1 : Int32) (u1 : Int32) (u2 : Int32) : Int32 := (if p1 < u1 then (0 : Int32) else (if u2 < p1 then (0 : Int32) else (1 : Int32)))
theorem ef4 (m : MethodId) (x0 : Addr) (x1 : Int32) : entryFrame m #[(.ref x0), (.int x1)] 2 = mkF m 0 #[.val (.ref x0), .val (.int x1)] [] := by first | (simp [entryFrame, mkF, argsToLocals, Value.category]; done) | rfl
def Q4 (Z : State) (r0 : Addr) (p1 : Int32) (u1 : Int32) (u2 : Int32) (h0 : Heap) (n0 : Nat) (v : Option Value) (h : Heap) (L : List Loc) : Prop := v = some (.int (f_is p1 u1 u2)) ∧ Fr n0 L ∧ h = h0
set_option maxRecDepth 65536 in
set_option maxHeartbeats 40000000 in
theorem rm4 (l : Launch) (Z : State) (a0 : Array Value) (hw : ∀ d ∈ tables_1, d.before a0 Z = true) (ws : List Jvm.Cond) (r0 : Addr) (p1 : Int32) (u1 : Int32) (u2 : Int32) (h0 : Heap) (n0 : Nat) (Z0 : n0 ≤ h0.size) (F1 : Fld Z h0 r0 "com/example/sluice/sluice/protocol/ApiKey" "minVersion" "S" (.int u1)) (F2 : Fld Z h0 r0 "com/example/sluice/sluice/protocol/ApiKey" "maxVersion" "S" (.int u2)) :
    MetFree l (⟨"com/example/sluice/sluice/protocol/ApiKey", "serves", "(S)Z"⟩ : MethodName) (head1 (Jvm.Cond.code (⟨"com/example/sluice/sluice/protocol/ApiKey", "serves", "(S)Z"⟩ : MethodName) prog_30_method_8_code 2 (some .boolean) :: ws) ({ frames := 0, cells := 0, slots := 0, locals := 0 } : Room)) (fun a U => a = #[(.ref r0), (.int p1)] ∧ Z.Warmed39 U.vm ∧ U.heap = h0) (fun _ _ _ _ _ => True) (fun _ U o U' => ∃ v L, o = .returned v ∧ Q4 Z r0 p1 u1 u2 h0 n0 v U'.heap L ∧ FrameEnd U o U' L ({ frames := 0, cells := 0, slots := 0, locals := 0 } : Room).cells ({ frames := 0, cells := 0, slots := 0, locals := 0 } : Room).slots) := by
  refine MetFree.of_bodySF (plainFor_of_name pn_ApiKey) hisR ?_
  intro p e s m args below meth c s₁ Bd hml0 hP hK
  obtain ⟨rfl, hZ, hh⟩ := hP
  have hx := Bd.exec
  have hby := Bd.bytes
  have hml : c.maxLocals = 2 := hml0
  have hown : s.vm.findClass "com/example/sluice/sluice/protocol/ApiKey" = some m.cls := findClass_of_methodNamed Bd.named
  have hnm := (name_of_methodNamed Bd.named Bd.method).1
  have X0 : Stand p l e ({ frames := 0, cells := 0, slots := 0, locals := 0 } : Room) s m #[(.ref r0), (.int p1)] below meth c s₁ [] 0 0 := Stand.of_body Bd
  have e0 : s₁.heap = h0 := by rw [← hh, Bd.state]; rfl
  have N0 := Fr.nil n0
  have pre0 : ∀ t, Steps p.tables e below (s₁.setTop (mkF m 0 #[.val (.ref r0), .val (.int p1)] [])) t → Steps p.tables e below (s₁.setTop (entryFrame m #[(.ref r0), (.int p1)] 2)) t := fun t k => castTop (ef4 m r0 p1) k
  obtain ⟨T71, X71, e71, st71⟩ := getF X0 hx hZ hown (host := "") (Or.inl (hw _ (List.mem_of_getElem? (i := 19) rfl))) Via.refl e0 F1 (g := (mkF m 2 #[.val (.ref r0), .val (.int p1)] [(.ref r0), (.int p1)])) rfl rfl (hb hby d4_2)
  have S72 : ∀ t, Steps p.tables e below (T71.setTop (mkF m 5 #[.val (.ref r0), .val (.int p1)] [(.int u1), (.int p1)])) t → Steps p.tables e below (s₁.setTop (entryFrame m #[(.ref r0), (.int p1)] 2)) t := by
    intro t kt
    refine pre0 _ ?_
    show Steps p.tables e below (s₁.setTop (mkF m 0 #[.val (.ref r0), .val (.int p1)] [])) _
    refine XS.iloadN X0.here hx rfl (hb hby d4_0) rfl ?_
    show Steps p.tables e below (s₁.setTop (mkF m 1 #[.val (.ref r0), .val (.int p1)] [(.int p1)])) _
    refine XS.aloadN X0.here hx rfl (hb hby d4_1) rfl rfl ?_
    show Steps p.tables e below (s₁.setTop (mkF m 2 #[.val (.ref r0), .val (.int p1)] [(.ref r0), (.int p1)])) _
    refine st71 _ ?_
    exact kt
  by_cases hc5_73 : p1 < u1
  case pos =>
    obtain ⟨fs, hrT, hrunT, hendT, hWT, hsameT⟩ := X71.leave (v := some (.int (0 : Int32))) (fun h => by rw [Bd.returns] at h; cases h)
    refine ⟨_, _, S72 _ ?_, hrunT, hendT, _, _, rfl, ?_, ⟨_, rfl⟩, hWT, hsameT.mono (by decide) (by decide)⟩
    · show Steps p.tables e below (T71.setTop (mkF m 5 #[.val (.ref r0), .val (.int p1)] [(.int u1), (.int p1)])) _
      refine XS.icmpYes X71.here hx rfl (pc0 := 5) (pc' := 20) rfl (hb hby d4_5) rfl (XT.ii_lt_t hc5_73) (by decide) (by decide) ?_
      show Steps p.tables e below (T71.setTop (mkF m 20 #[.val (.ref r0), .val (.int p1)] [])) _
      refine XS.iconst X71.here hx rfl (hb hby d4_20) ?_
      show Steps p.tables e below (T71.setTop (mkF m 21 #[.val (.ref r0), .val (.int p1)] [(.int (0 : Int32))])) _
      exact retN X71 hx (t := .boolean) Bd.returns (by simp) (hb hby d4_21) hrT
    · show Q4 Z r0 p1 u1 u2 h0 n0 _ T71.heap _
      rw [e71]
      have hv : f_is p1 u1 u2 = (0 : Int32) := by unfold f_is; rw [if_pos hc5_73]
      exact ⟨(congrArg (fun z => some (Value.int z)) hv.symm), N0, rfl⟩
  case neg =>
    obtain ⟨T74, X74, e74, st74⟩ := getF X71 hx hZ hown (host := "") (Or.inl (hw _ (List.mem_of_getElem? (i := 21) rfl))) Via.refl e71 F2 (g := (mkF m 10 #[.val (.ref r0), .val (.int p1)] [(.ref r0), (.int p1)])) rfl rfl (hb hby d4_10)
    have S75 : ∀ t, Steps p.tables e below (T74.setTop (mkF m 13 #[.val (.ref r0), .val (.int p1)] [(.int u2), (.int p1)])) t → Steps p.tables e below (s₁.setTop (entryFrame m #[(.ref r0), (.int p1)] 2)) t := by
      intro t kt
      refine S72 _ ?_
      show Steps p.tables e below (T71.setTop (mkF m 5 #[.val (.ref r0), .val (.int p1)] [(.int u1), (.int p1)])) _
      refine XS.icmpNo X71.here hx rfl (hb hby d4_5) rfl (XT.ii_lt_f hc5_73) ?_
      show Steps p.tables e below (T71.setTop (mkF m 8 #[.val (.ref r0), .val (.int p1)] [])) _
      refine XS.iloadN X71.here hx rfl (hb hby d4_8) rfl ?_
      show Steps p.tables e below (T71.setTop (mkF m 9 #[.val (.ref r0), .val (.int p1)] [(.int p1)])) _
      refine XS.aloadN X71.here hx rfl (hb hby d4_9) rfl rfl ?_
      show Steps p.tables e below (T71.setTop (mkF m 10 #[.val (.ref r0), .val (.int p1)] [(.ref r0), (.int p1)])) _
      refine st74 _ ?_
      exact kt
    by_cases hc13_76 : u2 < p1
    case pos =>
      obtain ⟨fs, hrT, hrunT, hendT, hWT, hsameT⟩ := X74.leave (v := some (.int (0 : Int32))) (fun h => by rw [Bd.returns] at h; cases h)
      refine ⟨_, _, S75 _ ?_, hrunT, hendT, _, _, rfl, ?_, ⟨_, rfl⟩, hWT, hsameT.mono (by decide) (by decide)⟩
      · show Steps p.tables e below (T74.setTop (mkF m 13 #[.val (.ref r0), .val (.int p1)] [(.int u2), (.int p1)])) _
        refine XS.icmpYes X74.here hx rfl (pc0 := 13) (pc' := 20) rfl (hb hby d4_13) rfl (XT.ii_gt_t hc13_76) (by decide) (by decide) ?_
        show Steps p.tables e below (T74.setTop (mkF m 20 #[.val (.ref r0), .val (.int p1)] [])) _
        refine XS.iconst X74.here hx rfl (hb hby d4_20) ?_
        show Steps p.tables e below (T74.setTop (mkF m 21 #[.val (.ref r0), .val (.int p1)] [(.int (0 : Int32))])) _
        exact retN X74 hx (t := .boolean) Bd.returns (by simp) (hb hby d4_21) hrT
      · show Q4 Z r0 p1 u1 u2 h0 n0 _ T74.heap _
        rw [e74]
        have hv : f_is p1 u1 u2 = (0 : Int32) := by unfold f_is; rw [if_neg hc5_73]; rw [if_pos hc13_76]
        exact ⟨(congrArg (fun z => some (Value.int z)) hv.symm), N0, rfl⟩
    case neg =>
      obtain ⟨fs, hrT, hrunT, hendT, hWT, hsameT⟩ := X74.leave (v := some (.int (1 : Int32))) (fun h => by rw [Bd.returns] at h; cases h)
      refine ⟨_, _, S75 _ ?_, hrunT, hendT, _, _, rfl, ?_, ⟨_, rfl⟩, hWT, hsameT.mono (by decide) (by decide)⟩
      · show Steps p.tables e below (T74.setTop (mkF m 13 #[.val (.ref r0), .val (.int p1)] [(.int u2), (.int p1)])) _
        refine XS.icmpNo X74.here hx rfl (hb hby d4_13) rfl (XT.ii_gt_f hc13_76) ?_
        show Steps p.tables e below (T74.setTop (mkF m 16 #[.val (.ref r0), .val (.int p1)] [])) _
        refine XS.iconst X74.here hx rfl (hb hby d4_16) ?_
        show Steps p.tables e below (T74.setTop (mkF m 17 #[.val (.ref r0), .val (.int p1)] [(.int (1 : Int32))])) _
        refine XS.goto X74.here hx rfl (pc0 := 17) (pc' := 21) rfl (hb hby d4_17) (by decide) (by decide) ?_
        show Steps p.tables e below (T74.setTop (mkF m 21 #[.val (.ref r0), .val (.int p1)] [(.int (1 : Int32))])) _
        exact retN X74 hx (t := .boolean) Bd.returns (by simp) (hb hby d4_21) hrT
      · show Q4 Z r0 p1 u1 u2 h0 n0 _ T74.heap _
        rw [e74]
        have hv : f_is p1 u1 u2 = (1 : Int32) := by unfold f_is; rw [if_neg hc5_73]; rw [if_neg hc13_76]
        exact ⟨(congrArg (fun z => some (Value.int z)) hv.symm), N0, rfl⟩
theorem pd__I_I : parseMethodDescriptor "(I)I" = some ⟨[.int], some .int⟩ := by decide +kernel
theorem pd__I_Lcom_example_sluice_sluice_protocol_ApiKey_ : parseMethodDescriptor "(I)Lcom/example/sluice/sluice/protocol/ApiKey;" = some ⟨[.int], some (.object "com/example/sluice/sluice/protocol/ApiKey")⟩ := by decide +kernel
theorem pd__S_Z : parseMethodDescriptor "(S)Z" = some ⟨[.short], some .boolean⟩ := by decide +kernel
theorem ef0 (m : MethodId) (x0 : Int32) (x1 : Int32) (x2 : Int32) : entryFrame m #[(.int x0), (.int x1), (.int x2)] maxLocals = mkF m 0 #[.val (.int x0), .val (.int x1), .val (.int x2), .unset, .unset, .unset, .unset, .unset, .unset, .unset, .unset, .unset] [] := by first | (simp [entryFrame, mkF, argsToLocals, Value.category, maxLocals]; done) | rfl
def Q0 (Z : State) (p0 : Int32) (p1 : Int32) (p2 : Int32) (v_PRODUCE : Addr) (v_FETCH : Addr) (v_SHARE_GROUP_DESCRIBE : Addr) (v_DESCRIBE_SHARE_GROUP_OFFSETS : Addr) (v_API_VERSIONS : Addr) (v_SHARE_GROUP_HEARTBEAT : Addr) (v_METADATA : Addr) (v_SHARE_ACKNOWLEDGE : Addr) (v_FIND_COORDINATOR : Addr) (v_LIST_GROUPS : Addr) (v_LIST_OFFSETS : Addr) (v_SHARE_FETCH : Addr) (h0 : Heap) (n0 : Nat) (v : Option Value) (h : Heap) (L : List Loc) : Prop := v = some (.int (1 : Int32)) ∧ Fr n0 L
set_option maxRecDepth 65536 in
set_option maxHeartbeats 40000000 in
theorem rm0 (l : Launch) (Z : State) (a0 : Array Value) (hw : ∀ d ∈ tables_1, d.before a0 Z = true) (ws : List Jvm.Cond) (p0 : Int32) (p1 : Int32) (p2 : Int32) (v_PRODUCE : Addr) (v_FETCH : Addr) (v_SHARE_GROUP_DESCRIBE : Addr) (v_DESCRIBE_SHARE_GROUP_OFFSETS : Addr) (v_API_VERSIONS : Addr) (v_SHARE_GROUP_HEARTBEAT : Addr) (v_METADATA : Addr) (v_SHARE_ACKNOWLEDGE : Addr) (v_FIND_COORDINATOR : Addr) (v_LIST_GROUPS : Addr) (v_LIST_OFFSETS : Addr) (v_SHARE_FETCH : Addr) (h0 : Heap) (n0 : Nat) (Z0 : n0 ≤ h0.size) (Sv_PRODUCE : Sta Z h0 "com/example/sluice/sluice/protocol/ApiKey" "PRODUCE" "Lcom/example/sluice/sluice/protocol/ApiKey;" (.ref v_PRODUCE)) (Ev_PRODUCE : Exa Z h0 v_PRODUCE "com/example/sluice/sluice/protocol/ApiKey") (Sv_FETCH : Sta Z h0 "com/example/sluice/sluice/protocol/ApiKey" "FETCH" "Lcom/example/sluice/sluice/protocol/ApiKey;" (.ref v_FETCH)) (Ev_FETCH : Exa Z h0 v_FETCH "com/example/sluice/sluice/protocol/ApiKey") (Sv_SHARE_GROUP_DESCRIBE : Sta Z h0 "com/example/sluice/sluice/protocol/ApiKey" "SHARE_GROUP_DESCRIBE" "Lcom/example/sluice/sluice/protocol/ApiKey;" (.ref v_SHARE_GROUP_DESCRIBE)) (Ev_SHARE_GROUP_DESCRIBE : Exa Z h0 v_SHARE_GROUP_DESCRIBE "com/example/sluice/sluice/protocol/ApiKey") (Sv_DESCRIBE_SHARE_GROUP_OFFSETS : Sta Z h0 "com/example/sluice/sluice/protocol/ApiKey" "DESCRIBE_SHARE_GROUP_OFFSETS" "Lcom/example/sluice/sluice/protocol/ApiKey;" (.ref v_DESCRIBE_SHARE_GROUP_OFFSETS)) (Ev_DESCRIBE_SHARE_GROUP_OFFSETS : Exa Z h0 v_DESCRIBE_SHARE_GROUP_OFFSETS "com/example/sluice/sluice/protocol/ApiKey") (Sv_API_VERSIONS : Sta Z h0 "com/example/sluice/sluice/protocol/ApiKey" "API_VERSIONS" "Lcom/example/sluice/sluice/protocol/ApiKey;" (.ref v_API_VERSIONS)) (Ev_API_VERSIONS : Exa Z h0 v_API_VERSIONS "com/example/sluice/sluice/protocol/ApiKey") (Sv_SHARE_GROUP_HEARTBEAT : Sta Z h0 "com/example/sluice/sluice/protocol/ApiKey" "SHARE_GROUP_HEARTBEAT" "Lcom/example/sluice/sluice/protocol/ApiKey;" (.ref v_SHARE_GROUP_HEARTBEAT)) (Ev_SHARE_GROUP_HEARTBEAT : Exa Z h0 v_SHARE_GROUP_HEARTBEAT "com/example/sluice/sluice/protocol/ApiKey") (Sv_METADATA : Sta Z h0 "com/example/sluice/sluice/protocol/ApiKey" "METADATA" "Lcom/example/sluice/sluice/protocol/ApiKey;" (.ref v_METADATA)) (Ev_METADATA : Exa Z h0 v_METADATA "com/example/sluice/sluice/protocol/ApiKey") (Sv_SHARE_ACKNOWLEDGE : Sta Z h0 "com/example/sluice/sluice/protocol/ApiKey" "SHARE_ACKNOWLEDGE" "Lcom/example/sluice/sluice/protocol/ApiKey;" (.ref v_SHARE_ACKNOWLEDGE)) (Ev_SHARE_ACKNOWLEDGE : Exa Z h0 v_SHARE_ACKNOWLEDGE "com/example/sluice/sluice/protocol/ApiKey") (Sv_FIND_COORDINATOR : Sta Z h0 "com/example/sluice/sluice/protocol/ApiKey" "FIND_COORDINATOR" "Lcom/example/sluice/sluice/protocol/ApiKey;" (.ref v_FIND_COORDINATOR)) (Ev_FIND_COORDINATOR : Exa Z h0 v_FIND_COORDINATOR "com/example/sluice/sluice/protocol/ApiKey") (Sv_LIST_GROUPS : Sta Z h0 "com/example/sluice/sluice/protocol/ApiKey" "LIST_GROUPS" "Lcom/example/sluice/sluice/protocol/ApiKey;" (.ref v_LIST_GROUPS)) (Ev_LIST_GROUPS : Exa Z h0 v_LIST_GROUPS "com/example/sluice/sluice/protocol/ApiKey") (Sv_LIST_OFFSETS : Sta Z h0 "com/example/sluice/sluice/protocol/ApiKey" "LIST_OFFSETS" "Lcom/example/sluice/sluice/protocol/ApiKey;" (.ref v_LIST_OFFSETS)) (Ev_LIST_OFFSETS : Exa Z h0 v_LIST_OFFSETS "com/example/sluice/sluice/protocol/ApiKey") (Sv_SHARE_FETCH : Sta Z h0 "com/example/sluice/sluice/protocol/ApiKey" "SHARE_FETCH" "Lcom/example/sluice/sluice/protocol/ApiKey;" (.ref v_SHARE_FETCH)) (Ev_SHARE_FETCH : Exa Z h0 v_SHARE_FETCH "com/example/sluice/sluice/protocol/ApiKey") (Fv_PRODUCE_minVersion : Fld Z h0 v_PRODUCE "com/example/sluice/sluice/protocol/ApiKey" "minVersion" "S" (.int (3 : Int32))) (Fv_PRODUCE_maxVersion : Fld Z h0 v_PRODUCE "com/example/sluice/sluice/protocol/ApiKey" "maxVersion" "S" (.int (7 : Int32))) (Fv_FETCH_minVersion : Fld Z h0 v_FETCH "com/example/sluice/sluice/protocol/ApiKey" "minVersion" "S" (.int (4 : Int32))) (Fv_SHARE_GROUP_DESCRIBE_minVersion : Fld Z h0 v_SHARE_GROUP_DESCRIBE "com/example/sluice/sluice/protocol/ApiKey" "minVersion" "S" (.int (1 : Int32))) (Fv_SHARE_GROUP_DESCRIBE_maxVersion : Fld Z h0 v_SHARE_GROUP_DESCRIBE "com/example/sluice/sluice/protocol/ApiKey" "maxVersion" "S" (.int (1 : Int32))) (Fv_DESCRIBE_SHARE_GROUP_OFFSETS_minVersion : Fld Z h0 v_DESCRIBE_SHARE_GROUP_OFFSETS "com/example/sluice/sluice/protocol/ApiKey" "minVersion" "S" (.int (0 : Int32))) (Fv_API_VERSIONS_minVersion : Fld Z h0 v_API_VERSIONS "com/example/sluice/sluice/protocol/ApiKey" "minVersion" "S" (.int (0 : Int32))) (Fv_SHARE_GROUP_HEARTBEAT_minVersion : Fld Z h0 v_SHARE_GROUP_HEARTBEAT "com/example/sluice/sluice/protocol/ApiKey" "minVersion" "S" (.int (1 : Int32))) (Fv_SHARE_GROUP_HEARTBEAT_maxVersion : Fld Z h0 v_SHARE_GROUP_HEARTBEAT "com/example/sluice/sluice/protocol/ApiKey" "maxVersion" "S" (.int (1 : Int32))) (Fv_METADATA_minVersion : Fld Z h0 v_METADATA "com/example/sluice/sluice/protocol/ApiKey" "minVersion" "S" (.int (0 : Int32))) (Fv_SHARE_ACKNOWLEDGE_minVersion : Fld Z h0 v_SHARE_ACKNOWLEDGE "com/example/sluice/sluice/protocol/ApiKey" "minVersion" "S" (.int (1 : Int32))) (Fv_SHARE_ACKNOWLEDGE_maxVersion : Fld Z h0 v_SHARE_ACKNOWLEDGE "com/example/sluice/sluice/protocol/ApiKey" "maxVersion" "S" (.int (1 : Int32))) (Fv_FIND_COORDINATOR_minVersion : Fld Z h0 v_FIND_COORDINATOR "com/example/sluice/sluice/protocol/ApiKey" "minVersion" "S" (.int (0 : Int32))) (Fv_FIND_COORDINATOR_maxVersion : Fld Z h0 v_FIND_COORDINATOR "com/example/sluice/sluice/protocol/ApiKey" "maxVersion" "S" (.int (4 : Int32))) (Fv_LIST_GROUPS_minVersion : Fld Z h0 v_LIST_GROUPS "com/example/sluice/sluice/protocol/ApiKey" "minVersion" "S" (.int (5 : Int32))) (Fv_LIST_GROUPS_maxVersion : Fld Z h0 v_LIST_GROUPS "com/example/sluice/sluice/protocol/ApiKey" "maxVersion" "S" (.int (5 : Int32))) (Fv_FETCH_maxVersion : Fld Z h0 v_FETCH "com/example/sluice/sluice/protocol/ApiKey" "maxVersion" "S" (.int (4 : Int32))) (Fv_LIST_OFFSETS_minVersion : Fld Z h0 v_LIST_OFFSETS "com/example/sluice/sluice/protocol/ApiKey" "minVersion" "S" (.int (1 : Int32))) (Fv_LIST_OFFSETS_maxVersion : Fld Z h0 v_LIST_OFFSETS "com/example/sluice/sluice/protocol/ApiKey" "maxVersion" "S" (.int (2 : Int32))) (Fv_METADATA_maxVersion : Fld Z h0 v_METADATA "com/example/sluice/sluice/protocol/ApiKey" "maxVersion" "S" (.int (12 : Int32))) (Fv_SHARE_FETCH_minVersion : Fld Z h0 v_SHARE_FETCH "com/example/sluice/sluice/protocol/ApiKey" "minVersion" "S" (.int (1 : Int32))) (Fv_SHARE_FETCH_maxVersion : Fld Z h0 v_SHARE_FETCH "com/example/sluice/sluice/protocol/ApiKey" "maxVersion" "S" (.int (1 : Int32))) (Fv_API_VERSIONS_maxVersion : Fld Z h0 v_API_VERSIONS "com/example/sluice/sluice/protocol/ApiKey" "maxVersion" "S" (.int (3 : Int32))) (Fv_DESCRIBE_SHARE_GROUP_OFFSETS_maxVersion : Fld Z h0 v_DESCRIBE_SHARE_GROUP_OFFSETS "com/example/sluice/sluice/protocol/ApiKey" "maxVersion" "S" (.int (0 : Int32))) :
    MetFree l x (head1 (Jvm.Cond.code x code maxLocals ret :: ws) room_1) (fun a U => a = #[(.int p0), (.int p1), (.int p2)] ∧ Z.Warmed39 U.vm ∧ U.heap = h0) (fun _ _ _ _ _ => True) (fun _ U o U' => ∃ v L, o = .returned v ∧ Q0 Z p0 p1 p2 v_PRODUCE v_FETCH v_SHARE_GROUP_DESCRIBE v_DESCRIBE_SHARE_GROUP_OFFSETS v_API_VERSIONS v_SHARE_GROUP_HEARTBEAT v_METADATA v_SHARE_ACKNOWLEDGE v_FIND_COORDINATOR v_LIST_GROUPS v_LIST_OFFSETS v_SHARE_FETCH h0 n0 v U'.heap L ∧ FrameEnd U o U' L room_1.cells room_1.slots) := by
  refine MetFree.of_bodySF (plainFor_of_name pn_ApiKeyServesPinLaw) hisR ?_
  intro p e s m args below meth c s₁ Bd hml0 hP hK
  obtain ⟨rfl, hZ, hh⟩ := hP
  have hx := Bd.exec
  have hby := Bd.bytes
  have hml : c.maxLocals = 12 := hml0
  have hown : s.vm.findClass "com/example/sluice/sluice/protocol/ApiKeyServesPinLaw" = some m.cls := findClass_of_methodNamed Bd.named
  have hnm := (name_of_methodNamed Bd.named Bd.method).1
  have X0 : Stand p l e room_1 s m #[(.int p0), (.int p1), (.int p2)] below meth c s₁ [] 0 0 := Stand.of_body Bd
  have e0 : s₁.heap = h0 := by rw [← hh, Bd.state]; rfl
  have N0 := Fr.nil n0
  have pre0 : ∀ t, Steps p.tables e below (s₁.setTop (mkF m 0 #[.val (.int p0), .val (.int p1), .val (.int p2), .unset, .unset, .unset, .unset, .unset, .unset, .unset, .unset, .unset] [])) t → Steps p.tables e below (s₁.setTop (entryFrame m #[(.int p0), (.int p1), (.int p2)] maxLocals)) t := fun t k => castTop (ef0 m p0 p1 p2) k
  have S77 : ∀ t, Steps p.tables e below (s₁.setTop (mkF m 8 #[.val (.int p0), .val (.int p1), .val (.int p2), .val (.int ((p0 &&& (2147483647 : Int32)) % (12 : Int32))), .unset, .unset, .unset, .unset, .unset, .unset, .unset, .unset] [])) t → Steps p.tables e below (s₁.setTop (entryFrame m #[(.int p0), (.int p1), (.int p2)] maxLocals)) t := by
    intro t kt
    refine pre0 _ ?_
    show Steps p.tables e below (s₁.setTop (mkF m 0 #[.val (.int p0), .val (.int p1), .val (.int p2), .unset, .unset, .unset, .unset, .unset, .unset, .unset, .unset, .unset] [])) _
    refine XS.iloadN X0.here hx rfl (hb hby at_0) rfl ?_
    show Steps p.tables e below (s₁.setTop (mkF m 1 #[.val (.int p0), .val (.int p1), .val (.int p2), .unset, .unset, .unset, .unset, .unset, .unset, .unset, .unset, .unset] [(.int p0)])) _
    refine X0.ldcInt hx hown (mvT hZ (hw _ (List.mem_of_getElem? (i := 0) rfl))) (g := (mkF m 1 #[.val (.int p0), .val (.int p1), .val (.int p2), .unset, .unset, .unset, .unset, .unset, .unset, .unset, .unset, .unset] [(.int p0)])) rfl (hb hby at_1) _ ?_
    show Steps p.tables e below (s₁.setTop (mkF m 3 #[.val (.int p0), .val (.int p1), .val (.int p2), .unset, .unset, .unset, .unset, .unset, .unset, .unset, .unset, .unset] [(.int (2147483647 : Int32)), (.int p0)])) _
    refine XS.iand X0.here hx rfl (hb hby at_3) rfl ?_
    show Steps p.tables e below (s₁.setTop (mkF m 4 #[.val (.int p0), .val (.int p1), .val (.int p2), .unset, .unset, .unset, .unset, .unset, .unset, .unset, .unset, .unset] [(.int (p0 &&& (2147483647 : Int32)))])) _
    refine XS.bipush X0.here hx rfl (hb hby at_4) ?_
    show Steps p.tables e below (s₁.setTop (mkF m 6 #[.val (.int p0), .val (.int p1), .val (.int p2), .unset, .unset, .unset, .unset, .unset, .unset, .unset, .unset, .unset] [(.int (12 : Int32)), (.int (p0 &&& (2147483647 : Int32)))])) _
    refine iremM X0 hx rfl (hb hby at_6) rfl (by decide) ?_
    show Steps p.tables e below (s₁.setTop (mkF m 7 #[.val (.int p0), .val (.int p1), .val (.int p2), .unset, .unset, .unset, .unset, .unset, .unset, .unset, .unset, .unset] [(.int ((p0 &&& (2147483647 : Int32)) % (12 : Int32)))])) _
    refine XS.istoreN X0.here hx rfl (hb hby at_7) rfl (l' := #[.val (.int p0), .val (.int p1), .val (.int p2), .val (.int ((p0 &&& (2147483647 : Int32)) % (12 : Int32))), .unset, .unset, .unset, .unset, .unset, .unset, .unset, .unset]) rfl ?_
    exact kt
  obtain ⟨kk, hd_kk⟩ : ∃ z, z = ((p0 &&& (2147483647 : Int32)) % (12 : Int32)) := ⟨_, rfl⟩
  rw [← hd_kk] at S77
  have S78 : ∀ t, Steps p.tables e below (s₁.setTop (mkF m 14 #[.val (.int p0), .val (.int p1), .val (.int p2), .val (.int kk), .val (.int (p1 &&& (7 : Int32))), .unset, .unset, .unset, .unset, .unset, .unset, .unset] [])) t → Steps p.tables e below (s₁.setTop (entryFrame m #[(.int p0), (.int p1), (.int p2)] maxLocals)) t := by
    intro t kt
    refine S77 _ ?_
    show Steps p.tables e below (s₁.setTop (mkF m 8 #[.val (.int p0), .val (.int p1), .val (.int p2), .val (.int kk), .unset, .unset, .unset, .unset, .unset, .unset, .unset, .unset] [])) _
    refine XS.iloadN X0.here hx rfl (hb hby at_8) rfl ?_
    show Steps p.tables e below (s₁.setTop (mkF m 9 #[.val (.int p0), .val (.int p1), .val (.int p2), .val (.int kk), .unset, .unset, .unset, .unset, .unset, .unset, .unset, .unset] [(.int p1)])) _
    refine XS.bipush X0.here hx rfl (hb hby at_9) ?_
    show Steps p.tables e below (s₁.setTop (mkF m 11 #[.val (.int p0), .val (.int p1), .val (.int p2), .val (.int kk), .unset, .unset, .unset, .unset, .unset, .unset, .unset, .unset] [(.int (7 : Int32)), (.int p1)])) _
    refine XS.iand X0.here hx rfl (hb hby at_11) rfl ?_
    show Steps p.tables e below (s₁.setTop (mkF m 12 #[.val (.int p0), .val (.int p1), .val (.int p2), .val (.int kk), .unset, .unset, .unset, .unset, .unset, .unset, .unset, .unset] [(.int (p1 &&& (7 : Int32)))])) _
    refine XS.istore X0.here hx rfl (hb hby at_12) rfl (l' := #[.val (.int p0), .val (.int p1), .val (.int p2), .val (.int kk), .val (.int (p1 &&& (7 : Int32))), .unset, .unset, .unset, .unset, .unset, .unset, .unset]) rfl ?_
    exact kt
  obtain ⟨mm, hd_mm⟩ : ∃ z, z = (p1 &&& (7 : Int32)) := ⟨_, rfl⟩
  rw [← hd_mm] at S78
  obtain ⟨_, _, ⟨T79, L79, k79, n79⟩, -, X79, ⟨Lc79, hQ79, l79, y79, z79⟩, st79⟩ := Jvm.LawKit.callS X0 hx (y := (⟨"com/example/sluice/sluice/protocol/ApiKeyServesPinLaw", "lo", "(I)I"⟩ : MethodName)) hown (mvT hZ (hw _ (List.mem_of_getElem? (i := 1) rfl))) (mvT hZ (hw _ (List.mem_of_getElem? (i := 2) rfl))) (mvT hZ (hw _ (List.mem_of_getElem? (i := 3) rfl))) (mvT hZ (hw _ (List.mem_of_getElem? (i := 4) rfl))) (by decide) (backOf (W := 0) (rm1 l Z a0 hw [] kk h0 n0 Z0 ) hZ (hw _ (List.mem_of_getElem? (i := 4) rfl)) (hw _ (List.mem_of_getElem? (i := 3) rfl)) (by decide) (by decide)) (g := (mkF m 15 #[.val (.int p0), .val (.int p1), .val (.int p2), .val (.int kk), .val (.int mm), .unset, .unset, .unset, .unset, .unset, .unset, .unset] [(.int kk)])) rfl (by rw [hml]; rfl) (argsL := [(.int kk)]) (rest := []) (lenOf pd__I_I rfl) rfl (by show 2 * 0 + _ ≤ _; exact Nat.le_of_eq rfl) (hb hby at_15) (fun _ _ => ⟨rfl, e0, (by decide : 0 + 0 ≤ _), (by decide : 0 + 0 ≤ _)⟩)
  dsimp only [Pt.U, Pt.locs, Pt.cells, Pt.slots] at X79 l79 y79 z79 st79 hQ79
  subst l79 y79 z79
  obtain ⟨rfl, Nq79, e79⟩ := hQ79
  have N79 := Fr.app N0 Nq79
  obtain ⟨_, _, ⟨T80, L80, k80, n80⟩, -, X80, ⟨Lc80, hQ80, l80, y80, z80⟩, st80⟩ := Jvm.LawKit.callS X79 hx (y := (⟨"com/example/sluice/sluice/protocol/ApiKeyServesPinLaw", "hi", "(I)I"⟩ : MethodName)) hown (mvT hZ (hw _ (List.mem_of_getElem? (i := 5) rfl))) (mvT hZ (hw _ (List.mem_of_getElem? (i := 6) rfl))) (mvT hZ (hw _ (List.mem_of_getElem? (i := 3) rfl))) (mvT hZ (hw _ (List.mem_of_getElem? (i := 7) rfl))) (by decide) (backOf (W := 0) (rm2 l Z a0 hw [] kk h0 n0 Z0 ) hZ (hw _ (List.mem_of_getElem? (i := 7) rfl)) (hw _ (List.mem_of_getElem? (i := 3) rfl)) (by decide) (by decide)) (g := (mkF m 21 #[.val (.int p0), .val (.int p1), .val (.int p2), .val (.int kk), .val (.int mm), .val (.int (f_lo kk)), .unset, .unset, .unset, .unset, .unset, .unset] [(.int kk)])) rfl (by rw [hml]; rfl) (argsL := [(.int kk)]) (rest := []) (lenOf pd__I_I rfl) rfl (by show 2 * 0 + _ ≤ _; exact Nat.le_of_eq rfl) (hb hby at_21) (fun _ _ => ⟨rfl, e79, (by decide : 0 + 0 ≤ _), (by decide : 0 + 0 ≤ _)⟩)
  dsimp only [Pt.U, Pt.locs, Pt.cells, Pt.slots] at X80 l80 y80 z80 st80 hQ80
  subst l80 y80 z80
  obtain ⟨rfl, Nq80, e80⟩ := hQ80
  have N80 := Fr.app N79 Nq80
  have S81 : ∀ t, Steps p.tables e below (T80.setTop (mkF m 28 #[.val (.int p0), .val (.int p1), .val (.int p2), .val (.int kk), .val (.int mm), .val (.int (f_lo kk)), .val (.int (f_hi kk)), .unset, .unset, .unset, .unset, .unset] [(.int mm)])) t → Steps p.tables e below (s₁.setTop (entryFrame m #[(.int p0), (.int p1), (.int p2)] maxLocals)) t := by
    intro t kt
    refine S78 _ ?_
    show Steps p.tables e below (s₁.setTop (mkF m 14 #[.val (.int p0), .val (.int p1), .val (.int p2), .val (.int kk), .val (.int mm), .unset, .unset, .unset, .unset, .unset, .unset, .unset] [])) _
    refine XS.iloadN X0.here hx rfl (hb hby at_14) rfl ?_
    show Steps p.tables e below (s₁.setTop (mkF m 15 #[.val (.int p0), .val (.int p1), .val (.int p2), .val (.int kk), .val (.int mm), .unset, .unset, .unset, .unset, .unset, .unset, .unset] [(.int kk)])) _
    refine st79 _ ?_
    show Steps p.tables e below (T79.setTop (mkF m 18 #[.val (.int p0), .val (.int p1), .val (.int p2), .val (.int kk), .val (.int mm), .unset, .unset, .unset, .unset, .unset, .unset, .unset] [(.int (f_lo kk))])) _
    refine XS.istore X79.here hx rfl (hb hby at_18) rfl (l' := #[.val (.int p0), .val (.int p1), .val (.int p2), .val (.int kk), .val (.int mm), .val (.int (f_lo kk)), .unset, .unset, .unset, .unset, .unset, .unset]) rfl ?_
    show Steps p.tables e below (T79.setTop (mkF m 20 #[.val (.int p0), .val (.int p1), .val (.int p2), .val (.int kk), .val (.int mm), .val (.int (f_lo kk)), .unset, .unset, .unset, .unset, .unset, .unset] [])) _
    refine XS.iloadN X79.here hx rfl (hb hby at_20) rfl ?_
    show Steps p.tables e below (T79.setTop (mkF m 21 #[.val (.int p0), .val (.int p1), .val (.int p2), .val (.int kk), .val (.int mm), .val (.int (f_lo kk)), .unset, .unset, .unset, .unset, .unset, .unset] [(.int kk)])) _
    refine st80 _ ?_
    show Steps p.tables e below (T80.setTop (mkF m 24 #[.val (.int p0), .val (.int p1), .val (.int p2), .val (.int kk), .val (.int mm), .val (.int (f_lo kk)), .unset, .unset, .unset, .unset, .unset, .unset] [(.int (f_hi kk))])) _
    refine XS.istore X80.here hx rfl (hb hby at_24) rfl (l' := #[.val (.int p0), .val (.int p1), .val (.int p2), .val (.int kk), .val (.int mm), .val (.int (f_lo kk)), .val (.int (f_hi kk)), .unset, .unset, .unset, .unset, .unset]) rfl ?_
    show Steps p.tables e below (T80.setTop (mkF m 26 #[.val (.int p0), .val (.int p1), .val (.int p2), .val (.int kk), .val (.int mm), .val (.int (f_lo kk)), .val (.int (f_hi kk)), .unset, .unset, .unset, .unset, .unset] [])) _
    refine XS.iload X80.here hx rfl (hb hby at_26) rfl ?_
    exact kt
  have S86 : ∀ t, Steps p.tables e below (T80.setTop (mkF m 84 #[.val (.int p0), .val (.int p1), .val (.int p2), .val (.int kk), .val (.int mm), .val (.int (f_lo kk)), .val (.int (f_hi kk)), .val (.int (if mm = 0 then ((f_lo kk) - (1 : Int32)) else (if mm = (1 : Int32) then (f_lo kk) else (if mm = (2 : Int32) then (f_hi kk) else (if mm = (3 : Int32) then ((f_hi kk) + (1 : Int32)) else p2))))), .unset, .unset, .unset, .unset] [])) t → Steps p.tables e below (s₁.setTop (entryFrame m #[(.int p0), (.int p1), (.int p2)] maxLocals)) t := by
    intro t kt
    refine S81 _ ?_
    by_cases hc28_82 : mm = 0
    case pos =>
      rw [(if_pos hc28_82 : (if mm = 0 then ((f_lo kk) - (1 : Int32)) else (if mm = (1 : Int32) then (f_lo kk) else (if mm = (2 : Int32) then (f_hi kk) else (if mm = (3 : Int32) then ((f_hi kk) + (1 : Int32)) else p2)))) = ((f_lo kk) - (1 : Int32)))] at kt
      show Steps p.tables e below (T80.setTop (mkF m 28 #[.val (.int p0), .val (.int p1), .val (.int p2), .val (.int kk), .val (.int mm), .val (.int (f_lo kk)), .val (.int (f_hi kk)), .unset, .unset, .unset, .unset, .unset] [(.int mm)])) _
      refine XS.ifNo X80.here hx rfl (hb hby at_28) rfl (XT.i0_ne_f hc28_82) ?_
      show Steps p.tables e below (T80.setTop (mkF m 31 #[.val (.int p0), .val (.int p1), .val (.int p2), .val (.int kk), .val (.int mm), .val (.int (f_lo kk)), .val (.int (f_hi kk)), .unset, .unset, .unset, .unset, .unset] [])) _
      refine XS.iload X80.here hx rfl (hb hby at_31) rfl ?_
      show Steps p.tables e below (T80.setTop (mkF m 33 #[.val (.int p0), .val (.int p1), .val (.int p2), .val (.int kk), .val (.int mm), .val (.int (f_lo kk)), .val (.int (f_hi kk)), .unset, .unset, .unset, .unset, .unset] [(.int (f_lo kk))])) _
      refine XS.iconst X80.here hx rfl (hb hby at_33) ?_
      show Steps p.tables e below (T80.setTop (mkF m 34 #[.val (.int p0), .val (.int p1), .val (.int p2), .val (.int kk), .val (.int mm), .val (.int (f_lo kk)), .val (.int (f_hi kk)), .unset, .unset, .unset, .unset, .unset] [(.int (1 : Int32)), (.int (f_lo kk))])) _
      refine XS.isub X80.here hx rfl (hb hby at_34) rfl ?_
      show Steps p.tables e below (T80.setTop (mkF m 35 #[.val (.int p0), .val (.int p1), .val (.int p2), .val (.int kk), .val (.int mm), .val (.int (f_lo kk)), .val (.int (f_hi kk)), .unset, .unset, .unset, .unset, .unset] [(.int ((f_lo kk) - (1 : Int32)))])) _
      refine XS.istore X80.here hx rfl (hb hby at_35) rfl (l' := #[.val (.int p0), .val (.int p1), .val (.int p2), .val (.int kk), .val (.int mm), .val (.int (f_lo kk)), .val (.int (f_hi kk)), .val (.int ((f_lo kk) - (1 : Int32))), .unset, .unset, .unset, .unset]) rfl ?_
      show Steps p.tables e below (T80.setTop (mkF m 37 #[.val (.int p0), .val (.int p1), .val (.int p2), .val (.int kk), .val (.int mm), .val (.int (f_lo kk)), .val (.int (f_hi kk)), .val (.int ((f_lo kk) - (1 : Int32))), .unset, .unset, .unset, .unset] [])) _
      refine XS.goto X80.here hx rfl (pc0 := 37) (pc' := 84) rfl (hb hby at_37) (by decide) (by decide) ?_
      exact kt
    case neg =>
      rw [(if_neg hc28_82 : (if mm = 0 then ((f_lo kk) - (1 : Int32)) else (if mm = (1 : Int32) then (f_lo kk) else (if mm = (2 : Int32) then (f_hi kk) else (if mm = (3 : Int32) then ((f_hi kk) + (1 : Int32)) else p2)))) = (if mm = (1 : Int32) then (f_lo kk) else (if mm = (2 : Int32) then (f_hi kk) else (if mm = (3 : Int32) then ((f_hi kk) + (1 : Int32)) else p2))))] at kt
      show Steps p.tables e below (T80.setTop (mkF m 28 #[.val (.int p0), .val (.int p1), .val (.int p2), .val (.int kk), .val (.int mm), .val (.int (f_lo kk)), .val (.int (f_hi kk)), .unset, .unset, .unset, .unset, .unset] [(.int mm)])) _
      refine XS.ifYes X80.here hx rfl (pc0 := 28) (pc' := 40) rfl (hb hby at_28) rfl (XT.i0_ne_t hc28_82) (by decide) (by decide) ?_
      show Steps p.tables e below (T80.setTop (mkF m 40 #[.val (.int p0), .val (.int p1), .val (.int p2), .val (.int kk), .val (.int mm), .val (.int (f_lo kk)), .val (.int (f_hi kk)), .unset, .unset, .unset, .unset, .unset] [])) _
      refine XS.iload X80.here hx rfl (hb hby at_40) rfl ?_
      show Steps p.tables e below (T80.setTop (mkF m 42 #[.val (.int p0), .val (.int p1), .val (.int p2), .val (.int kk), .val (.int mm), .val (.int (f_lo kk)), .val (.int (f_hi kk)), .unset, .unset, .unset, .unset, .unset] [(.int mm)])) _
      refine XS.iconst X80.here hx rfl (hb hby at_42) ?_
      by_cases hc43_83 : mm = (1 : Int32)
      case pos =>
        rw [(if_pos hc43_83 : (if mm = (1 : Int32) then (f_lo kk) else (if mm = (2 : Int32) then (f_hi kk) else (if mm = (3 : Int32) then ((f_hi kk) + (1 : Int32)) else p2))) = (f_lo kk))] at kt
        show Steps p.tables e below (T80.setTop (mkF m 43 #[.val (.int p0), .val (.int p1), .val (.int p2), .val (.int kk), .val (.int mm), .val (.int (f_lo kk)), .val (.int (f_hi kk)), .unset, .unset, .unset, .unset, .unset] [(.int (1 : Int32)), (.int mm)])) _
        refine XS.icmpNo X80.here hx rfl (hb hby at_43) rfl (XT.ii_ne_f hc43_83) ?_
        show Steps p.tables e below (T80.setTop (mkF m 46 #[.val (.int p0), .val (.int p1), .val (.int p2), .val (.int kk), .val (.int mm), .val (.int (f_lo kk)), .val (.int (f_hi kk)), .unset, .unset, .unset, .unset, .unset] [])) _
        refine XS.iload X80.here hx rfl (hb hby at_46) rfl ?_
        show Steps p.tables e below (T80.setTop (mkF m 48 #[.val (.int p0), .val (.int p1), .val (.int p2), .val (.int kk), .val (.int mm), .val (.int (f_lo kk)), .val (.int (f_hi kk)), .unset, .unset, .unset, .unset, .unset] [(.int (f_lo kk))])) _
        refine XS.istore X80.here hx rfl (hb hby at_48) rfl (l' := #[.val (.int p0), .val (.int p1), .val (.int p2), .val (.int kk), .val (.int mm), .val (.int (f_lo kk)), .val (.int (f_hi kk)), .val (.int (f_lo kk)), .unset, .unset, .unset, .unset]) rfl ?_
        show Steps p.tables e below (T80.setTop (mkF m 50 #[.val (.int p0), .val (.int p1), .val (.int p2), .val (.int kk), .val (.int mm), .val (.int (f_lo kk)), .val (.int (f_hi kk)), .val (.int (f_lo kk)), .unset, .unset, .unset, .unset] [])) _
        refine XS.goto X80.here hx rfl (pc0 := 50) (pc' := 84) rfl (hb hby at_50) (by decide) (by decide) ?_
        exact kt
      case neg =>
        rw [(if_neg hc43_83 : (if mm = (1 : Int32) then (f_lo kk) else (if mm = (2 : Int32) then (f_hi kk) else (if mm = (3 : Int32) then ((f_hi kk) + (1 : Int32)) else p2))) = (if mm = (2 : Int32) then (f_hi kk) else (if mm = (3 : Int32) then ((f_hi kk) + (1 : Int32)) else p2)))] at kt
        show Steps p.tables e below (T80.setTop (mkF m 43 #[.val (.int p0), .val (.int p1), .val (.int p2), .val (.int kk), .val (.int mm), .val (.int (f_lo kk)), .val (.int (f_hi kk)), .unset, .unset, .unset, .unset, .unset] [(.int (1 : Int32)), (.int mm)])) _
        refine XS.icmpYes X80.here hx rfl (pc0 := 43) (pc' := 53) rfl (hb hby at_43) rfl (XT.ii_ne_t hc43_83) (by decide) (by decide) ?_
        show Steps p.tables e below (T80.setTop (mkF m 53 #[.val (.int p0), .val (.int p1), .val (.int p2), .val (.int kk), .val (.int mm), .val (.int (f_lo kk)), .val (.int (f_hi kk)), .unset, .unset, .unset, .unset, .unset] [])) _
        refine XS.iload X80.here hx rfl (hb hby at_53) rfl ?_
        show Steps p.tables e below (T80.setTop (mkF m 55 #[.val (.int p0), .val (.int p1), .val (.int p2), .val (.int kk), .val (.int mm), .val (.int (f_lo kk)), .val (.int (f_hi kk)), .unset, .unset, .unset, .unset, .unset] [(.int mm)])) _
        refine XS.iconst X80.here hx rfl (hb hby at_55) ?_
        by_cases hc56_84 : mm = (2 : Int32)
        case pos =>
          rw [(if_pos hc56_84 : (if mm = (2 : Int32) then (f_hi kk) else (if mm = (3 : Int32) then ((f_hi kk) + (1 : Int32)) else p2)) = (f_hi kk))] at kt
          show Steps p.tables e below (T80.setTop (mkF m 56 #[.val (.int p0), .val (.int p1), .val (.int p2), .val (.int kk), .val (.int mm), .val (.int (f_lo kk)), .val (.int (f_hi kk)), .unset, .unset, .unset, .unset, .unset] [(.int (2 : Int32)), (.int mm)])) _
          refine XS.icmpNo X80.here hx rfl (hb hby at_56) rfl (XT.ii_ne_f hc56_84) ?_
          show Steps p.tables e below (T80.setTop (mkF m 59 #[.val (.int p0), .val (.int p1), .val (.int p2), .val (.int kk), .val (.int mm), .val (.int (f_lo kk)), .val (.int (f_hi kk)), .unset, .unset, .unset, .unset, .unset] [])) _
          refine XS.iload X80.here hx rfl (hb hby at_59) rfl ?_
          show Steps p.tables e below (T80.setTop (mkF m 61 #[.val (.int p0), .val (.int p1), .val (.int p2), .val (.int kk), .val (.int mm), .val (.int (f_lo kk)), .val (.int (f_hi kk)), .unset, .unset, .unset, .unset, .unset] [(.int (f_hi kk))])) _
          refine XS.istore X80.here hx rfl (hb hby at_61) rfl (l' := #[.val (.int p0), .val (.int p1), .val (.int p2), .val (.int kk), .val (.int mm), .val (.int (f_lo kk)), .val (.int (f_hi kk)), .val (.int (f_hi kk)), .unset, .unset, .unset, .unset]) rfl ?_
          show Steps p.tables e below (T80.setTop (mkF m 63 #[.val (.int p0), .val (.int p1), .val (.int p2), .val (.int kk), .val (.int mm), .val (.int (f_lo kk)), .val (.int (f_hi kk)), .val (.int (f_hi kk)), .unset, .unset, .unset, .unset] [])) _
          refine XS.goto X80.here hx rfl (pc0 := 63) (pc' := 84) rfl (hb hby at_63) (by decide) (by decide) ?_
          exact kt
        case neg =>
          rw [(if_neg hc56_84 : (if mm = (2 : Int32) then (f_hi kk) else (if mm = (3 : Int32) then ((f_hi kk) + (1 : Int32)) else p2)) = (if mm = (3 : Int32) then ((f_hi kk) + (1 : Int32)) else p2))] at kt
          show Steps p.tables e below (T80.setTop (mkF m 56 #[.val (.int p0), .val (.int p1), .val (.int p2), .val (.int kk), .val (.int mm), .val (.int (f_lo kk)), .val (.int (f_hi kk)), .unset, .unset, .unset, .unset, .unset] [(.int (2 : Int32)), (.int mm)])) _
          refine XS.icmpYes X80.here hx rfl (pc0 := 56) (pc' := 66) rfl (hb hby at_56) rfl (XT.ii_ne_t hc56_84) (by decide) (by decide) ?_
          show Steps p.tables e below (T80.setTop (mkF m 66 #[.val (.int p0), .val (.int p1), .val (.int p2), .val (.int kk), .val (.int mm), .val (.int (f_lo kk)), .val (.int (f_hi kk)), .unset, .unset, .unset, .unset, .unset] [])) _
          refine XS.iload X80.here hx rfl (hb hby at_66) rfl ?_
          show Steps p.tables e below (T80.setTop (mkF m 68 #[.val (.int p0), .val (.int p1), .val (.int p2), .val (.int kk), .val (.int mm), .val (.int (f_lo kk)), .val (.int (f_hi kk)), .unset, .unset, .unset, .unset, .unset] [(.int mm)])) _
          refine XS.iconst X80.here hx rfl (hb hby at_68) ?_
          by_cases hc69_85 : mm = (3 : Int32)
          case pos =>
            rw [(if_pos hc69_85 : (if mm = (3 : Int32) then ((f_hi kk) + (1 : Int32)) else p2) = ((f_hi kk) + (1 : Int32)))] at kt
            show Steps p.tables e below (T80.setTop (mkF m 69 #[.val (.int p0), .val (.int p1), .val (.int p2), .val (.int kk), .val (.int mm), .val (.int (f_lo kk)), .val (.int (f_hi kk)), .unset, .unset, .unset, .unset, .unset] [(.int (3 : Int32)), (.int mm)])) _
            refine XS.icmpNo X80.here hx rfl (hb hby at_69) rfl (XT.ii_ne_f hc69_85) ?_
            show Steps p.tables e below (T80.setTop (mkF m 72 #[.val (.int p0), .val (.int p1), .val (.int p2), .val (.int kk), .val (.int mm), .val (.int (f_lo kk)), .val (.int (f_hi kk)), .unset, .unset, .unset, .unset, .unset] [])) _
            refine XS.iload X80.here hx rfl (hb hby at_72) rfl ?_
            show Steps p.tables e below (T80.setTop (mkF m 74 #[.val (.int p0), .val (.int p1), .val (.int p2), .val (.int kk), .val (.int mm), .val (.int (f_lo kk)), .val (.int (f_hi kk)), .unset, .unset, .unset, .unset, .unset] [(.int (f_hi kk))])) _
            refine XS.iconst X80.here hx rfl (hb hby at_74) ?_
            show Steps p.tables e below (T80.setTop (mkF m 75 #[.val (.int p0), .val (.int p1), .val (.int p2), .val (.int kk), .val (.int mm), .val (.int (f_lo kk)), .val (.int (f_hi kk)), .unset, .unset, .unset, .unset, .unset] [(.int (1 : Int32)), (.int (f_hi kk))])) _
            refine XS.iadd X80.here hx rfl (hb hby at_75) rfl ?_
            show Steps p.tables e below (T80.setTop (mkF m 76 #[.val (.int p0), .val (.int p1), .val (.int p2), .val (.int kk), .val (.int mm), .val (.int (f_lo kk)), .val (.int (f_hi kk)), .unset, .unset, .unset, .unset, .unset] [(.int ((f_hi kk) + (1 : Int32)))])) _
            refine XS.istore X80.here hx rfl (hb hby at_76) rfl (l' := #[.val (.int p0), .val (.int p1), .val (.int p2), .val (.int kk), .val (.int mm), .val (.int (f_lo kk)), .val (.int (f_hi kk)), .val (.int ((f_hi kk) + (1 : Int32))), .unset, .unset, .unset, .unset]) rfl ?_
            show Steps p.tables e below (T80.setTop (mkF m 78 #[.val (.int p0), .val (.int p1), .val (.int p2), .val (.int kk), .val (.int mm), .val (.int (f_lo kk)), .val (.int (f_hi kk)), .val (.int ((f_hi kk) + (1 : Int32))), .unset, .unset, .unset, .unset] [])) _
            refine XS.goto X80.here hx rfl (pc0 := 78) (pc' := 84) rfl (hb hby at_78) (by decide) (by decide) ?_
            exact kt
          case neg =>
            rw [(if_neg hc69_85 : (if mm = (3 : Int32) then ((f_hi kk) + (1 : Int32)) else p2) = p2)] at kt
            show Steps p.tables e below (T80.setTop (mkF m 69 #[.val (.int p0), .val (.int p1), .val (.int p2), .val (.int kk), .val (.int mm), .val (.int (f_lo kk)), .val (.int (f_hi kk)), .unset, .unset, .unset, .unset, .unset] [(.int (3 : Int32)), (.int mm)])) _
            refine XS.icmpYes X80.here hx rfl (pc0 := 69) (pc' := 81) rfl (hb hby at_69) rfl (XT.ii_ne_t hc69_85) (by decide) (by decide) ?_
            show Steps p.tables e below (T80.setTop (mkF m 81 #[.val (.int p0), .val (.int p1), .val (.int p2), .val (.int kk), .val (.int mm), .val (.int (f_lo kk)), .val (.int (f_hi kk)), .unset, .unset, .unset, .unset, .unset] [])) _
            refine XS.iloadN X80.here hx rfl (hb hby at_81) rfl ?_
            show Steps p.tables e below (T80.setTop (mkF m 82 #[.val (.int p0), .val (.int p1), .val (.int p2), .val (.int kk), .val (.int mm), .val (.int (f_lo kk)), .val (.int (f_hi kk)), .unset, .unset, .unset, .unset, .unset] [(.int p2)])) _
            refine XS.istore X80.here hx rfl (hb hby at_82) rfl (l' := #[.val (.int p0), .val (.int p1), .val (.int p2), .val (.int kk), .val (.int mm), .val (.int (f_lo kk)), .val (.int (f_hi kk)), .val (.int p2), .unset, .unset, .unset, .unset]) rfl ?_
            exact kt
  have S87 : ∀ t, Steps p.tables e below (T80.setTop (mkF m 89 #[.val (.int p0), .val (.int p1), .val (.int p2), .val (.int kk), .val (.int mm), .val (.int (f_lo kk)), .val (.int (f_hi kk)), .val (.int (if mm = 0 then ((f_lo kk) - (1 : Int32)) else (if mm = (1 : Int32) then (f_lo kk) else (if mm = (2 : Int32) then (f_hi kk) else (if mm = (3 : Int32) then ((f_hi kk) + (1 : Int32)) else p2))))), .val (.int ((if mm = 0 then ((f_lo kk) - (1 : Int32)) else (if mm = (1 : Int32) then (f_lo kk) else (if mm = (2 : Int32) then (f_hi kk) else (if mm = (3 : Int32) then ((f_hi kk) + (1 : Int32)) else p2)))).toInt16.toInt32)), .unset, .unset, .unset] [])) t → Steps p.tables e below (s₁.setTop (entryFrame m #[(.int p0), (.int p1), (.int p2)] maxLocals)) t := by
    intro t kt
    refine S86 _ ?_
    show Steps p.tables e below (T80.setTop (mkF m 84 #[.val (.int p0), .val (.int p1), .val (.int p2), .val (.int kk), .val (.int mm), .val (.int (f_lo kk)), .val (.int (f_hi kk)), .val (.int (if mm = 0 then ((f_lo kk) - (1 : Int32)) else (if mm = (1 : Int32) then (f_lo kk) else (if mm = (2 : Int32) then (f_hi kk) else (if mm = (3 : Int32) then ((f_hi kk) + (1 : Int32)) else p2))))), .unset, .unset, .unset, .unset] [])) _
    refine XS.iload X80.here hx rfl (hb hby at_84) rfl ?_
    show Steps p.tables e below (T80.setTop (mkF m 86 #[.val (.int p0), .val (.int p1), .val (.int p2), .val (.int kk), .val (.int mm), .val (.int (f_lo kk)), .val (.int (f_hi kk)), .val (.int (if mm = 0 then ((f_lo kk) - (1 : Int32)) else (if mm = (1 : Int32) then (f_lo kk) else (if mm = (2 : Int32) then (f_hi kk) else (if mm = (3 : Int32) then ((f_hi kk) + (1 : Int32)) else p2))))), .unset, .unset, .unset, .unset] [(.int (if mm = 0 then ((f_lo kk) - (1 : Int32)) else (if mm = (1 : Int32) then (f_lo kk) else (if mm = (2 : Int32) then (f_hi kk) else (if mm = (3 : Int32) then ((f_hi kk) + (1 : Int32)) else p2)))))])) _
    refine XS.i2s X80.here hx rfl (hb hby at_86) rfl ?_
    show Steps p.tables e below (T80.setTop (mkF m 87 #[.val (.int p0), .val (.int p1), .val (.int p2), .val (.int kk), .val (.int mm), .val (.int (f_lo kk)), .val (.int (f_hi kk)), .val (.int (if mm = 0 then ((f_lo kk) - (1 : Int32)) else (if mm = (1 : Int32) then (f_lo kk) else (if mm = (2 : Int32) then (f_hi kk) else (if mm = (3 : Int32) then ((f_hi kk) + (1 : Int32)) else p2))))), .unset, .unset, .unset, .unset] [(.int ((if mm = 0 then ((f_lo kk) - (1 : Int32)) else (if mm = (1 : Int32) then (f_lo kk) else (if mm = (2 : Int32) then (f_hi kk) else (if mm = (3 : Int32) then ((f_hi kk) + (1 : Int32)) else p2)))).toInt16.toInt32))])) _
    refine XS.istore X80.here hx rfl (hb hby at_87) rfl (l' := #[.val (.int p0), .val (.int p1), .val (.int p2), .val (.int kk), .val (.int mm), .val (.int (f_lo kk)), .val (.int (f_hi kk)), .val (.int (if mm = 0 then ((f_lo kk) - (1 : Int32)) else (if mm = (1 : Int32) then (f_lo kk) else (if mm = (2 : Int32) then (f_hi kk) else (if mm = (3 : Int32) then ((f_hi kk) + (1 : Int32)) else p2))))), .val (.int ((if mm = 0 then ((f_lo kk) - (1 : Int32)) else (if mm = (1 : Int32) then (f_lo kk) else (if mm = (2 : Int32) then (f_hi kk) else (if mm = (3 : Int32) then ((f_hi kk) + (1 : Int32)) else p2)))).toInt16.toInt32)), .unset, .unset, .unset]) rfl ?_
    exact kt
  obtain ⟨ver, hd_ver⟩ : ∃ z, z = ((if mm = 0 then ((f_lo kk) - (1 : Int32)) else (if mm = (1 : Int32) then (f_lo kk) else (if mm = (2 : Int32) then (f_hi kk) else (if mm = (3 : Int32) then ((f_hi kk) + (1 : Int32)) else p2)))).toInt16.toInt32) := ⟨_, rfl⟩
  rw [← hd_ver] at S87
  have S88 : ∀ t, Steps p.tables e below (T80.setTop (mkF m 97 #[.val (.int p0), .val (.int p1), .val (.int p2), .val (.int kk), .val (.int mm), .val (.int (f_lo kk)), .val (.int (f_hi kk)), .val (.int (if mm = 0 then ((f_lo kk) - (1 : Int32)) else (if mm = (1 : Int32) then (f_lo kk) else (if mm = (2 : Int32) then (f_hi kk) else (if mm = (3 : Int32) then ((f_hi kk) + (1 : Int32)) else p2))))), .val (.int ver), .val (.int ver), .unset, .unset] [(.int (f_lo kk)), (.int ver)])) t → Steps p.tables e below (s₁.setTop (entryFrame m #[(.int p0), (.int p1), (.int p2)] maxLocals)) t := by
    intro t kt
    refine S87 _ ?_
    show Steps p.tables e below (T80.setTop (mkF m 89 #[.val (.int p0), .val (.int p1), .val (.int p2), .val (.int kk), .val (.int mm), .val (.int (f_lo kk)), .val (.int (f_hi kk)), .val (.int (if mm = 0 then ((f_lo kk) - (1 : Int32)) else (if mm = (1 : Int32) then (f_lo kk) else (if mm = (2 : Int32) then (f_hi kk) else (if mm = (3 : Int32) then ((f_hi kk) + (1 : Int32)) else p2))))), .val (.int ver), .unset, .unset, .unset] [])) _
    refine XS.iload X80.here hx rfl (hb hby at_89) rfl ?_
    show Steps p.tables e below (T80.setTop (mkF m 91 #[.val (.int p0), .val (.int p1), .val (.int p2), .val (.int kk), .val (.int mm), .val (.int (f_lo kk)), .val (.int (f_hi kk)), .val (.int (if mm = 0 then ((f_lo kk) - (1 : Int32)) else (if mm = (1 : Int32) then (f_lo kk) else (if mm = (2 : Int32) then (f_hi kk) else (if mm = (3 : Int32) then ((f_hi kk) + (1 : Int32)) else p2))))), .val (.int ver), .unset, .unset, .unset] [(.int ver)])) _
    refine XS.istore X80.here hx rfl (hb hby at_91) rfl (l' := #[.val (.int p0), .val (.int p1), .val (.int p2), .val (.int kk), .val (.int mm), .val (.int (f_lo kk)), .val (.int (f_hi kk)), .val (.int (if mm = 0 then ((f_lo kk) - (1 : Int32)) else (if mm = (1 : Int32) then (f_lo kk) else (if mm = (2 : Int32) then (f_hi kk) else (if mm = (3 : Int32) then ((f_hi kk) + (1 : Int32)) else p2))))), .val (.int ver), .val (.int ver), .unset, .unset]) rfl ?_
    show Steps p.tables e below (T80.setTop (mkF m 93 #[.val (.int p0), .val (.int p1), .val (.int p2), .val (.int kk), .val (.int mm), .val (.int (f_lo kk)), .val (.int (f_hi kk)), .val (.int (if mm = 0 then ((f_lo kk) - (1 : Int32)) else (if mm = (1 : Int32) then (f_lo kk) else (if mm = (2 : Int32) then (f_hi kk) else (if mm = (3 : Int32) then ((f_hi kk) + (1 : Int32)) else p2))))), .val (.int ver), .val (.int ver), .unset, .unset] [])) _
    refine XS.iload X80.here hx rfl (hb hby at_93) rfl ?_
    show Steps p.tables e below (T80.setTop (mkF m 95 #[.val (.int p0), .val (.int p1), .val (.int p2), .val (.int kk), .val (.int mm), .val (.int (f_lo kk)), .val (.int (f_hi kk)), .val (.int (if mm = 0 then ((f_lo kk) - (1 : Int32)) else (if mm = (1 : Int32) then (f_lo kk) else (if mm = (2 : Int32) then (f_hi kk) else (if mm = (3 : Int32) then ((f_hi kk) + (1 : Int32)) else p2))))), .val (.int ver), .val (.int ver), .unset, .unset] [(.int ver)])) _
    refine XS.iload X80.here hx rfl (hb hby at_95) rfl ?_
    exact kt
  have S91 : ∀ t, Steps p.tables e below (T80.setTop (mkF m 112 #[.val (.int p0), .val (.int p1), .val (.int p2), .val (.int kk), .val (.int mm), .val (.int (f_lo kk)), .val (.int (f_hi kk)), .val (.int (if mm = 0 then ((f_lo kk) - (1 : Int32)) else (if mm = (1 : Int32) then (f_lo kk) else (if mm = (2 : Int32) then (f_hi kk) else (if mm = (3 : Int32) then ((f_hi kk) + (1 : Int32)) else p2))))), .val (.int ver), .val (.int ver), .unset, .unset] [(.int (if ver < (f_lo kk) then (0 : Int32) else (if (f_hi kk) < ver then (0 : Int32) else (1 : Int32))))])) t → Steps p.tables e below (s₁.setTop (entryFrame m #[(.int p0), (.int p1), (.int p2)] maxLocals)) t := by
    intro t kt
    refine S88 _ ?_
    by_cases hc97_89 : ver < (f_lo kk)
    case pos =>
      rw [(if_pos hc97_89 : (if ver < (f_lo kk) then (0 : Int32) else (if (f_hi kk) < ver then (0 : Int32) else (1 : Int32))) = (0 : Int32))] at kt
      show Steps p.tables e below (T80.setTop (mkF m 97 #[.val (.int p0), .val (.int p1), .val (.int p2), .val (.int kk), .val (.int mm), .val (.int (f_lo kk)), .val (.int (f_hi kk)), .val (.int (if mm = 0 then ((f_lo kk) - (1 : Int32)) else (if mm = (1 : Int32) then (f_lo kk) else (if mm = (2 : Int32) then (f_hi kk) else (if mm = (3 : Int32) then ((f_hi kk) + (1 : Int32)) else p2))))), .val (.int ver), .val (.int ver), .unset, .unset] [(.int (f_lo kk)), (.int ver)])) _
      refine XS.icmpYes X80.here hx rfl (pc0 := 97) (pc' := 111) rfl (hb hby at_97) rfl (XT.ii_lt_t hc97_89) (by decide) (by decide) ?_
      show Steps p.tables e below (T80.setTop (mkF m 111 #[.val (.int p0), .val (.int p1), .val (.int p2), .val (.int kk), .val (.int mm), .val (.int (f_lo kk)), .val (.int (f_hi kk)), .val (.int (if mm = 0 then ((f_lo kk) - (1 : Int32)) else (if mm = (1 : Int32) then (f_lo kk) else (if mm = (2 : Int32) then (f_hi kk) else (if mm = (3 : Int32) then ((f_hi kk) + (1 : Int32)) else p2))))), .val (.int ver), .val (.int ver), .unset, .unset] [])) _
      refine XS.iconst X80.here hx rfl (hb hby at_111) ?_
      exact kt
    case neg =>
      rw [(if_neg hc97_89 : (if ver < (f_lo kk) then (0 : Int32) else (if (f_hi kk) < ver then (0 : Int32) else (1 : Int32))) = (if (f_hi kk) < ver then (0 : Int32) else (1 : Int32)))] at kt
      show Steps p.tables e below (T80.setTop (mkF m 97 #[.val (.int p0), .val (.int p1), .val (.int p2), .val (.int kk), .val (.int mm), .val (.int (f_lo kk)), .val (.int (f_hi kk)), .val (.int (if mm = 0 then ((f_lo kk) - (1 : Int32)) else (if mm = (1 : Int32) then (f_lo kk) else (if mm = (2 : Int32) then (f_hi kk) else (if mm = (3 : Int32) then ((f_hi kk) + (1 : Int32)) else p2))))), .val (.int ver), .val (.int ver), .unset, .unset] [(.int (f_lo kk)), (.int ver)])) _
      refine XS.icmpNo X80.here hx rfl (hb hby at_97) rfl (XT.ii_lt_f hc97_89) ?_
      show Steps p.tables e below (T80.setTop (mkF m 100 #[.val (.int p0), .val (.int p1), .val (.int p2), .val (.int kk), .val (.int mm), .val (.int (f_lo kk)), .val (.int (f_hi kk)), .val (.int (if mm = 0 then ((f_lo kk) - (1 : Int32)) else (if mm = (1 : Int32) then (f_lo kk) else (if mm = (2 : Int32) then (f_hi kk) else (if mm = (3 : Int32) then ((f_hi kk) + (1 : Int32)) else p2))))), .val (.int ver), .val (.int ver), .unset, .unset] [])) _
      refine XS.iload X80.here hx rfl (hb hby at_100) rfl ?_
      show Steps p.tables e below (T80.setTop (mkF m 102 #[.val (.int p0), .val (.int p1), .val (.int p2), .val (.int kk), .val (.int mm), .val (.int (f_lo kk)), .val (.int (f_hi kk)), .val (.int (if mm = 0 then ((f_lo kk) - (1 : Int32)) else (if mm = (1 : Int32) then (f_lo kk) else (if mm = (2 : Int32) then (f_hi kk) else (if mm = (3 : Int32) then ((f_hi kk) + (1 : Int32)) else p2))))), .val (.int ver), .val (.int ver), .unset, .unset] [(.int ver)])) _
      refine XS.iload X80.here hx rfl (hb hby at_102) rfl ?_
      by_cases hc104_90 : (f_hi kk) < ver
      case pos =>
        rw [(if_pos hc104_90 : (if (f_hi kk) < ver then (0 : Int32) else (1 : Int32)) = (0 : Int32))] at kt
        show Steps p.tables e below (T80.setTop (mkF m 104 #[.val (.int p0), .val (.int p1), .val (.int p2), .val (.int kk), .val (.int mm), .val (.int (f_lo kk)), .val (.int (f_hi kk)), .val (.int (if mm = 0 then ((f_lo kk) - (1 : Int32)) else (if mm = (1 : Int32) then (f_lo kk) else (if mm = (2 : Int32) then (f_hi kk) else (if mm = (3 : Int32) then ((f_hi kk) + (1 : Int32)) else p2))))), .val (.int ver), .val (.int ver), .unset, .unset] [(.int (f_hi kk)), (.int ver)])) _
        refine XS.icmpYes X80.here hx rfl (pc0 := 104) (pc' := 111) rfl (hb hby at_104) rfl (XT.ii_gt_t hc104_90) (by decide) (by decide) ?_
        show Steps p.tables e below (T80.setTop (mkF m 111 #[.val (.int p0), .val (.int p1), .val (.int p2), .val (.int kk), .val (.int mm), .val (.int (f_lo kk)), .val (.int (f_hi kk)), .val (.int (if mm = 0 then ((f_lo kk) - (1 : Int32)) else (if mm = (1 : Int32) then (f_lo kk) else (if mm = (2 : Int32) then (f_hi kk) else (if mm = (3 : Int32) then ((f_hi kk) + (1 : Int32)) else p2))))), .val (.int ver), .val (.int ver), .unset, .unset] [])) _
        refine XS.iconst X80.here hx rfl (hb hby at_111) ?_
        exact kt
      case neg =>
        rw [(if_neg hc104_90 : (if (f_hi kk) < ver then (0 : Int32) else (1 : Int32)) = (1 : Int32))] at kt
        show Steps p.tables e below (T80.setTop (mkF m 104 #[.val (.int p0), .val (.int p1), .val (.int p2), .val (.int kk), .val (.int mm), .val (.int (f_lo kk)), .val (.int (f_hi kk)), .val (.int (if mm = 0 then ((f_lo kk) - (1 : Int32)) else (if mm = (1 : Int32) then (f_lo kk) else (if mm = (2 : Int32) then (f_hi kk) else (if mm = (3 : Int32) then ((f_hi kk) + (1 : Int32)) else p2))))), .val (.int ver), .val (.int ver), .unset, .unset] [(.int (f_hi kk)), (.int ver)])) _
        refine XS.icmpNo X80.here hx rfl (hb hby at_104) rfl (XT.ii_gt_f hc104_90) ?_
        show Steps p.tables e below (T80.setTop (mkF m 107 #[.val (.int p0), .val (.int p1), .val (.int p2), .val (.int kk), .val (.int mm), .val (.int (f_lo kk)), .val (.int (f_hi kk)), .val (.int (if mm = 0 then ((f_lo kk) - (1 : Int32)) else (if mm = (1 : Int32) then (f_lo kk) else (if mm = (2 : Int32) then (f_hi kk) else (if mm = (3 : Int32) then ((f_hi kk) + (1 : Int32)) else p2))))), .val (.int ver), .val (.int ver), .unset, .unset] [])) _
        refine XS.iconst X80.here hx rfl (hb hby at_107) ?_
        show Steps p.tables e below (T80.setTop (mkF m 108 #[.val (.int p0), .val (.int p1), .val (.int p2), .val (.int kk), .val (.int mm), .val (.int (f_lo kk)), .val (.int (f_hi kk)), .val (.int (if mm = 0 then ((f_lo kk) - (1 : Int32)) else (if mm = (1 : Int32) then (f_lo kk) else (if mm = (2 : Int32) then (f_hi kk) else (if mm = (3 : Int32) then ((f_hi kk) + (1 : Int32)) else p2))))), .val (.int ver), .val (.int ver), .unset, .unset] [(.int (1 : Int32))])) _
        refine XS.goto X80.here hx rfl (pc0 := 108) (pc' := 112) rfl (hb hby at_108) (by decide) (by decide) ?_
        exact kt
  obtain ⟨_, _, ⟨T92, L92, k92, n92⟩, -, X92, ⟨Lc92, hQ92, l92, y92, z92⟩, st92⟩ := Jvm.LawKit.callS X80 hx (y := (⟨"com/example/sluice/sluice/protocol/ApiKeyServesPinLaw", "pick", "(I)Lcom/example/sluice/sluice/protocol/ApiKey;"⟩ : MethodName)) hown (mvT hZ (hw _ (List.mem_of_getElem? (i := 8) rfl))) (mvT hZ (hw _ (List.mem_of_getElem? (i := 9) rfl))) (mvT hZ (hw _ (List.mem_of_getElem? (i := 3) rfl))) (mvT hZ (hw _ (List.mem_of_getElem? (i := 10) rfl))) (by decide) (backOf (W := 0) (rm3 l Z a0 hw [] kk v_PRODUCE v_FETCH v_SHARE_GROUP_DESCRIBE v_DESCRIBE_SHARE_GROUP_OFFSETS v_API_VERSIONS v_SHARE_GROUP_HEARTBEAT v_METADATA v_SHARE_ACKNOWLEDGE v_FIND_COORDINATOR v_LIST_GROUPS v_LIST_OFFSETS v_SHARE_FETCH h0 n0 Z0 (by rw [hd_kk]; exact own_mod p0) Sv_PRODUCE Ev_PRODUCE Sv_FETCH Ev_FETCH Sv_SHARE_GROUP_DESCRIBE Ev_SHARE_GROUP_DESCRIBE Sv_DESCRIBE_SHARE_GROUP_OFFSETS Ev_DESCRIBE_SHARE_GROUP_OFFSETS Sv_API_VERSIONS Ev_API_VERSIONS Sv_SHARE_GROUP_HEARTBEAT Ev_SHARE_GROUP_HEARTBEAT Sv_METADATA Ev_METADATA Sv_SHARE_ACKNOWLEDGE Ev_SHARE_ACKNOWLEDGE Sv_FIND_COORDINATOR Ev_FIND_COORDINATOR Sv_LIST_GROUPS Ev_LIST_GROUPS Sv_LIST_OFFSETS Ev_LIST_OFFSETS Sv_SHARE_FETCH Ev_SHARE_FETCH Fv_PRODUCE_minVersion Fv_PRODUCE_maxVersion Fv_FETCH_minVersion Fv_SHARE_GROUP_DESCRIBE_minVersion Fv_SHARE_GROUP_DESCRIBE_maxVersion Fv_DESCRIBE_SHARE_GROUP_OFFSETS_minVersion Fv_API_VERSIONS_minVersion Fv_SHARE_GROUP_HEARTBEAT_minVersion Fv_SHARE_GROUP_HEARTBEAT_maxVersion Fv_METADATA_minVersion Fv_SHARE_ACKNOWLEDGE_minVersion Fv_SHARE_ACKNOWLEDGE_maxVersion Fv_FIND_COORDINATOR_minVersion Fv_FIND_COORDINATOR_maxVersion Fv_LIST_GROUPS_minVersion Fv_LIST_GROUPS_maxVersion Fv_FETCH_maxVersion Fv_LIST_OFFSETS_minVersion Fv_LIST_OFFSETS_maxVersion Fv_METADATA_maxVersion Fv_SHARE_FETCH_minVersion Fv_SHARE_FETCH_maxVersion Fv_API_VERSIONS_maxVersion Fv_DESCRIBE_SHARE_GROUP_OFFSETS_maxVersion) hZ (hw _ (List.mem_of_getElem? (i := 10) rfl)) (hw _ (List.mem_of_getElem? (i := 3) rfl)) (by decide) (by decide)) (g := (mkF m 115 #[.val (.int p0), .val (.int p1), .val (.int p2), .val (.int kk), .val (.int mm), .val (.int (f_lo kk)), .val (.int (f_hi kk)), .val (.int (if mm = 0 then ((f_lo kk) - (1 : Int32)) else (if mm = (1 : Int32) then (f_lo kk) else (if mm = (2 : Int32) then (f_hi kk) else (if mm = (3 : Int32) then ((f_hi kk) + (1 : Int32)) else p2))))), .val (.int ver), .val (.int ver), .val (.int (if ver < (f_lo kk) then (0 : Int32) else (if (f_hi kk) < ver then (0 : Int32) else (1 : Int32)))), .unset] [(.int kk)])) rfl (by rw [hml]; rfl) (argsL := [(.int kk)]) (rest := []) (lenOf pd__I_Lcom_example_sluice_sluice_protocol_ApiKey_ rfl) rfl (by show 2 * 0 + _ ≤ _; exact Nat.le_of_eq rfl) (hb hby at_115) (fun _ _ => ⟨rfl, e80, (by decide : 0 + 0 ≤ _), (by decide : 0 + 0 ≤ _)⟩)
  dsimp only [Pt.U, Pt.locs, Pt.cells, Pt.slots] at X92 l92 y92 z92 st92 hQ92
  subst l92 y92 z92
  obtain ⟨bb_92, rfl, Nq92, e92, f92_0, f92_1, f92_2⟩ := hQ92
  rw [e92] at f92_0 f92_1 f92_2
  have N92 := Fr.app N80 Nq92
  obtain ⟨cq93, kq93, q93a, q93b, q93c⟩ := isOf hZ e92 f92_0
  obtain ⟨_, _, ⟨T93, L93, k93, n93⟩, -, X93, ⟨Lc93, hQ93, l93, y93, z93⟩, st93⟩ := X92.virtualBack hx (y := (⟨"com/example/sluice/sluice/protocol/ApiKey", "serves", "(S)Z"⟩ : MethodName)) (z := (⟨"com/example/sluice/sluice/protocol/ApiKey", "serves", "(S)Z"⟩ : MethodName)) hown (mvT hZ (hw _ (List.mem_of_getElem? (i := 14) rfl))) (mvT hZ (hw _ (List.mem_of_getElem? (i := 15) rfl))) (notFace_of_selects (args := #[]) (mvT hZ (hw _ (List.mem_of_getElem? (i := 17) rfl)))) (mvT hZ (hw _ (List.mem_of_getElem? (i := 17) rfl))) (mvT hZ (hw _ (List.mem_of_getElem? (i := 16) rfl))) (by decide) (backOf (W := 0) (rm4 l Z a0 hw [] bb_92 ver (f_lo kk) (f_hi kk) h0 n0 Z0 f92_1 f92_2) hZ (hw _ (List.mem_of_getElem? (i := 18) rfl)) (hw _ (List.mem_of_getElem? (i := 12) rfl)) (by decide) (by decide)) q93a q93c (g := (mkF m 124 #[.val (.int p0), .val (.int p1), .val (.int p2), .val (.int kk), .val (.int mm), .val (.int (f_lo kk)), .val (.int (f_hi kk)), .val (.int (if mm = 0 then ((f_lo kk) - (1 : Int32)) else (if mm = (1 : Int32) then (f_lo kk) else (if mm = (2 : Int32) then (f_hi kk) else (if mm = (3 : Int32) then ((f_hi kk) + (1 : Int32)) else p2))))), .val (.int ver), .val (.int ver), .val (.int (if ver < (f_lo kk) then (0 : Int32) else (if (f_hi kk) < ver then (0 : Int32) else (1 : Int32)))), .val (.ref bb_92)] [(.int ver), (.ref bb_92)])) rfl (by rw [hml]; rfl) (Steps.refl _) (argsL := [(.int ver)]) (rest := []) (lenOf pd__S_Z rfl) rfl (by show 2 * 0 + _ ≤ _; exact Nat.le_of_eq rfl) (hb hby at_124) (fun _ _ => ⟨rfl, e92, (by decide : 0 + 0 ≤ _), (by decide : 0 + 0 ≤ _)⟩)
  dsimp only [Pt.U, Pt.locs, Pt.cells, Pt.slots] at X93 l93 y93 z93 st93 hQ93
  subst l93 y93 z93
  obtain ⟨rfl, Nq93, e93⟩ := hQ93
  have N93 := Fr.app N92 Nq93
  obtain ⟨fs, hrT, hrunT, hendT, hWT, hsameT⟩ := X93.leave (v := some (.int (1 : Int32))) (fun h => by rw [Bd.returns] at h; cases h)
  refine ⟨_, _, S91 _ ?_, hrunT, hendT, _, _, rfl, ?_, ⟨_, rfl⟩, hWT, hsameT.mono (by decide) (by decide)⟩
  · show Steps p.tables e below (T80.setTop (mkF m 112 #[.val (.int p0), .val (.int p1), .val (.int p2), .val (.int kk), .val (.int mm), .val (.int (f_lo kk)), .val (.int (f_hi kk)), .val (.int (if mm = 0 then ((f_lo kk) - (1 : Int32)) else (if mm = (1 : Int32) then (f_lo kk) else (if mm = (2 : Int32) then (f_hi kk) else (if mm = (3 : Int32) then ((f_hi kk) + (1 : Int32)) else p2))))), .val (.int ver), .val (.int ver), .unset, .unset] [(.int (if ver < (f_lo kk) then (0 : Int32) else (if (f_hi kk) < ver then (0 : Int32) else (1 : Int32))))])) _
    refine XS.istore X80.here hx rfl (hb hby at_112) rfl (l' := #[.val (.int p0), .val (.int p1), .val (.int p2), .val (.int kk), .val (.int mm), .val (.int (f_lo kk)), .val (.int (f_hi kk)), .val (.int (if mm = 0 then ((f_lo kk) - (1 : Int32)) else (if mm = (1 : Int32) then (f_lo kk) else (if mm = (2 : Int32) then (f_hi kk) else (if mm = (3 : Int32) then ((f_hi kk) + (1 : Int32)) else p2))))), .val (.int ver), .val (.int ver), .val (.int (if ver < (f_lo kk) then (0 : Int32) else (if (f_hi kk) < ver then (0 : Int32) else (1 : Int32)))), .unset]) rfl ?_
    show Steps p.tables e below (T80.setTop (mkF m 114 #[.val (.int p0), .val (.int p1), .val (.int p2), .val (.int kk), .val (.int mm), .val (.int (f_lo kk)), .val (.int (f_hi kk)), .val (.int (if mm = 0 then ((f_lo kk) - (1 : Int32)) else (if mm = (1 : Int32) then (f_lo kk) else (if mm = (2 : Int32) then (f_hi kk) else (if mm = (3 : Int32) then ((f_hi kk) + (1 : Int32)) else p2))))), .val (.int ver), .val (.int ver), .val (.int (if ver < (f_lo kk) then (0 : Int32) else (if (f_hi kk) < ver then (0 : Int32) else (1 : Int32)))), .unset] [])) _
    refine XS.iloadN X80.here hx rfl (hb hby at_114) rfl ?_
    show Steps p.tables e below (T80.setTop (mkF m 115 #[.val (.int p0), .val (.int p1), .val (.int p2), .val (.int kk), .val (.int mm), .val (.int (f_lo kk)), .val (.int (f_hi kk)), .val (.int (if mm = 0 then ((f_lo kk) - (1 : Int32)) else (if mm = (1 : Int32) then (f_lo kk) else (if mm = (2 : Int32) then (f_hi kk) else (if mm = (3 : Int32) then ((f_hi kk) + (1 : Int32)) else p2))))), .val (.int ver), .val (.int ver), .val (.int (if ver < (f_lo kk) then (0 : Int32) else (if (f_hi kk) < ver then (0 : Int32) else (1 : Int32)))), .unset] [(.int kk)])) _
    refine st92 _ ?_
    show Steps p.tables e below (T92.setTop (mkF m 118 #[.val (.int p0), .val (.int p1), .val (.int p2), .val (.int kk), .val (.int mm), .val (.int (f_lo kk)), .val (.int (f_hi kk)), .val (.int (if mm = 0 then ((f_lo kk) - (1 : Int32)) else (if mm = (1 : Int32) then (f_lo kk) else (if mm = (2 : Int32) then (f_hi kk) else (if mm = (3 : Int32) then ((f_hi kk) + (1 : Int32)) else p2))))), .val (.int ver), .val (.int ver), .val (.int (if ver < (f_lo kk) then (0 : Int32) else (if (f_hi kk) < ver then (0 : Int32) else (1 : Int32)))), .unset] [(.ref bb_92)])) _
    refine XS.astore X92.here hx rfl (hb hby at_118) rfl rfl (l' := #[.val (.int p0), .val (.int p1), .val (.int p2), .val (.int kk), .val (.int mm), .val (.int (f_lo kk)), .val (.int (f_hi kk)), .val (.int (if mm = 0 then ((f_lo kk) - (1 : Int32)) else (if mm = (1 : Int32) then (f_lo kk) else (if mm = (2 : Int32) then (f_hi kk) else (if mm = (3 : Int32) then ((f_hi kk) + (1 : Int32)) else p2))))), .val (.int ver), .val (.int ver), .val (.int (if ver < (f_lo kk) then (0 : Int32) else (if (f_hi kk) < ver then (0 : Int32) else (1 : Int32)))), .val (.ref bb_92)]) rfl ?_
    show Steps p.tables e below (T92.setTop (mkF m 120 #[.val (.int p0), .val (.int p1), .val (.int p2), .val (.int kk), .val (.int mm), .val (.int (f_lo kk)), .val (.int (f_hi kk)), .val (.int (if mm = 0 then ((f_lo kk) - (1 : Int32)) else (if mm = (1 : Int32) then (f_lo kk) else (if mm = (2 : Int32) then (f_hi kk) else (if mm = (3 : Int32) then ((f_hi kk) + (1 : Int32)) else p2))))), .val (.int ver), .val (.int ver), .val (.int (if ver < (f_lo kk) then (0 : Int32) else (if (f_hi kk) < ver then (0 : Int32) else (1 : Int32)))), .val (.ref bb_92)] [])) _
    refine XS.aload X92.here hx rfl (hb hby at_120) rfl rfl ?_
    show Steps p.tables e below (T92.setTop (mkF m 122 #[.val (.int p0), .val (.int p1), .val (.int p2), .val (.int kk), .val (.int mm), .val (.int (f_lo kk)), .val (.int (f_hi kk)), .val (.int (if mm = 0 then ((f_lo kk) - (1 : Int32)) else (if mm = (1 : Int32) then (f_lo kk) else (if mm = (2 : Int32) then (f_hi kk) else (if mm = (3 : Int32) then ((f_hi kk) + (1 : Int32)) else p2))))), .val (.int ver), .val (.int ver), .val (.int (if ver < (f_lo kk) then (0 : Int32) else (if (f_hi kk) < ver then (0 : Int32) else (1 : Int32)))), .val (.ref bb_92)] [(.ref bb_92)])) _
    refine XS.iload X92.here hx rfl (hb hby at_122) rfl ?_
    show Steps p.tables e below (T92.setTop (mkF m 124 #[.val (.int p0), .val (.int p1), .val (.int p2), .val (.int kk), .val (.int mm), .val (.int (f_lo kk)), .val (.int (f_hi kk)), .val (.int (if mm = 0 then ((f_lo kk) - (1 : Int32)) else (if mm = (1 : Int32) then (f_lo kk) else (if mm = (2 : Int32) then (f_hi kk) else (if mm = (3 : Int32) then ((f_hi kk) + (1 : Int32)) else p2))))), .val (.int ver), .val (.int ver), .val (.int (if ver < (f_lo kk) then (0 : Int32) else (if (f_hi kk) < ver then (0 : Int32) else (1 : Int32)))), .val (.ref bb_92)] [(.int ver), (.ref bb_92)])) _
    refine st93.trans ?_
    show Steps p.tables e below (T93.setTop (mkF m 127 #[.val (.int p0), .val (.int p1), .val (.int p2), .val (.int kk), .val (.int mm), .val (.int (f_lo kk)), .val (.int (f_hi kk)), .val (.int (if mm = 0 then ((f_lo kk) - (1 : Int32)) else (if mm = (1 : Int32) then (f_lo kk) else (if mm = (2 : Int32) then (f_hi kk) else (if mm = (3 : Int32) then ((f_hi kk) + (1 : Int32)) else p2))))), .val (.int ver), .val (.int ver), .val (.int (if ver < (f_lo kk) then (0 : Int32) else (if (f_hi kk) < ver then (0 : Int32) else (1 : Int32)))), .val (.ref bb_92)] [(.int (f_is ver (f_lo kk) (f_hi kk)))])) _
    refine XS.iload X93.here hx rfl (hb hby at_127) rfl ?_
    show Steps p.tables e below (T93.setTop (mkF m 129 #[.val (.int p0), .val (.int p1), .val (.int p2), .val (.int kk), .val (.int mm), .val (.int (f_lo kk)), .val (.int (f_hi kk)), .val (.int (if mm = 0 then ((f_lo kk) - (1 : Int32)) else (if mm = (1 : Int32) then (f_lo kk) else (if mm = (2 : Int32) then (f_hi kk) else (if mm = (3 : Int32) then ((f_hi kk) + (1 : Int32)) else p2))))), .val (.int ver), .val (.int ver), .val (.int (if ver < (f_lo kk) then (0 : Int32) else (if (f_hi kk) < ver then (0 : Int32) else (1 : Int32)))), .val (.ref bb_92)] [(.int (if ver < (f_lo kk) then (0 : Int32) else (if (f_hi kk) < ver then (0 : Int32) else (1 : Int32)))), (.int (f_is ver (f_lo kk) (f_hi kk)))])) _
    refine XS.icmpNo X93.here hx rfl (hb hby at_129) rfl (XT.ii_ne_f (rfl : f_is ver (f_lo kk) (f_hi kk) = (if ver < (f_lo kk) then (0 : Int32) else (if (f_hi kk) < ver then (0 : Int32) else (1 : Int32))))) ?_
    show Steps p.tables e below (T93.setTop (mkF m 132 #[.val (.int p0), .val (.int p1), .val (.int p2), .val (.int kk), .val (.int mm), .val (.int (f_lo kk)), .val (.int (f_hi kk)), .val (.int (if mm = 0 then ((f_lo kk) - (1 : Int32)) else (if mm = (1 : Int32) then (f_lo kk) else (if mm = (2 : Int32) then (f_hi kk) else (if mm = (3 : Int32) then ((f_hi kk) + (1 : Int32)) else p2))))), .val (.int ver), .val (.int ver), .val (.int (if ver < (f_lo kk) then (0 : Int32) else (if (f_hi kk) < ver then (0 : Int32) else (1 : Int32)))), .val (.ref bb_92)] [])) _
    refine XS.iconst X93.here hx rfl (hb hby at_132) ?_
    show Steps p.tables e below (T93.setTop (mkF m 133 #[.val (.int p0), .val (.int p1), .val (.int p2), .val (.int kk), .val (.int mm), .val (.int (f_lo kk)), .val (.int (f_hi kk)), .val (.int (if mm = 0 then ((f_lo kk) - (1 : Int32)) else (if mm = (1 : Int32) then (f_lo kk) else (if mm = (2 : Int32) then (f_hi kk) else (if mm = (3 : Int32) then ((f_hi kk) + (1 : Int32)) else p2))))), .val (.int ver), .val (.int ver), .val (.int (if ver < (f_lo kk) then (0 : Int32) else (if (f_hi kk) < ver then (0 : Int32) else (1 : Int32)))), .val (.ref bb_92)] [(.int (1 : Int32))])) _
    refine XS.goto X93.here hx rfl (pc0 := 133) (pc' := 137) rfl (hb hby at_133) (by decide) (by decide) ?_
    show Steps p.tables e below (T93.setTop (mkF m 137 #[.val (.int p0), .val (.int p1), .val (.int p2), .val (.int kk), .val (.int mm), .val (.int (f_lo kk)), .val (.int (f_hi kk)), .val (.int (if mm = 0 then ((f_lo kk) - (1 : Int32)) else (if mm = (1 : Int32) then (f_lo kk) else (if mm = (2 : Int32) then (f_hi kk) else (if mm = (3 : Int32) then ((f_hi kk) + (1 : Int32)) else p2))))), .val (.int ver), .val (.int ver), .val (.int (if ver < (f_lo kk) then (0 : Int32) else (if (f_hi kk) < ver then (0 : Int32) else (1 : Int32)))), .val (.ref bb_92)] [(.int (1 : Int32))])) _
    exact retN X93 hx (t := .boolean) Bd.returns (by simp) (hb hby at_137) hrT
  · show Q0 Z p0 p1 p2 v_PRODUCE v_FETCH v_SHARE_GROUP_DESCRIBE v_DESCRIBE_SHARE_GROUP_OFFSETS v_API_VERSIONS v_SHARE_GROUP_HEARTBEAT v_METADATA v_SHARE_ACKNOWLEDGE v_FIND_COORDINATOR v_LIST_GROUPS v_LIST_OFFSETS v_SHARE_FETCH h0 n0 _ T93.heap _
    rw [e93]
    exact ⟨rfl, N93⟩
set_option maxRecDepth 65536 in
set_option maxHeartbeats 40000000 in
theorem comes_1 {Post : Tables → Env → Array Value → State → Outcome → State → Prop} (hpost : ∀ tb e args s v u, (limb_1_1.after args s (.returned v) u = true ∧ limb_1_2.after args s (.returned v) u = true ∧ True) → FrameEnd s (.returned v) u (Jvm.fieldLocs frame_1_writes args s ++ Jvm.arrayLocs frame_1_arrays args s ++ Jvm.staticLocs frame_1_statics s) 0 0 → Post tb e args s (.returned v) u) :
    ArmFor flags0 classFile x code maxLocals ret World_1 tables_1 room_1 Calls_1 rest_1 Pre_1 Post := by
  intro l hfl _ _ p e ha hc hk s m args below hf hA hF happ hP
  obtain ⟨hcalls, hrest, hpre⟩ := hP
  obtain ⟨-, -, -, hnamed, -, -, -, hat⟩ := (Spec.applies_iff hf).mp happ
  obtain ⟨hg, hn⟩ := and_e (Cond.before_iff.mp (show (Jvm.Cond.and given_1 narrow_1).before args s = true from hpre))
  obtain ⟨gc, gr0⟩ := and_e hg
  obtain ⟨ga0, gr1⟩ := and_e gr0
  obtain ⟨ga1, gr2⟩ := and_e gr1
  have ga2 := gr2
  obtain ⟨w0, w1, w2, rfl⟩ : ∃ w0 w1 w2 : Value, args = #[w0, w1, w2] := by
    have hs : args.size = 3 := by simpa [Cond.value, given_1] using gc
    obtain ⟨L⟩ := args
    match L, hs with
    | [w0, w1, w2], _ => exact ⟨w0, w1, w2, rfl⟩
  have hw := fun d (hd : d ∈ tables_1) => atoms_spec (ws := Jvm.Cond.code x code maxLocals ret :: tables_1) hat d (List.mem_cons_of_mem _ hd)
  have hfit : Fit s := fun {y c} hc i hi => by
    obtain ⟨ha, rfl⟩ := Array.getElem?_eq_some_iff.mp hc
    have q := List.all_eq_true.mp ((Array.all_eq_true_iff_forall_mem.mp hF) _ (Array.getElem_mem ha)) i (List.mem_range.mpr hi)
    simpa [Array.getElem?_eq_getElem hi] using q
  obtain ⟨i0, ei0⟩ := is_v ga0
  obtain rfl : w0 = (.int i0) := Option.some.inj ei0
  obtain ⟨i1, ei1⟩ := is_v ga1
  obtain rfl : w1 = (.int i1) := Option.some.inj ei1
  obtain ⟨i2, ei2⟩ := is_v ga2
  obtain rfl : w2 = (.int i2) := Option.some.inj ei2
  have nr0 := hn
  obtain ⟨nn0, nr1⟩ := and_e nr0
  obtain ⟨nn1, nr2⟩ := and_e nr1
  obtain ⟨nn2, nr3⟩ := and_e nr2
  obtain ⟨nn3, nr4⟩ := and_e nr3
  obtain ⟨nn4, nr5⟩ := and_e nr4
  obtain ⟨nn5, nr6⟩ := and_e nr5
  obtain ⟨nn6, nr7⟩ := and_e nr6
  obtain ⟨nn7, nr8⟩ := and_e nr7
  obtain ⟨nn8, nr9⟩ := and_e nr8
  obtain ⟨nn9, nr10⟩ := and_e nr9
  obtain ⟨nn10, nr11⟩ := and_e nr10
  obtain ⟨nn11, nr12⟩ := and_e nr11
  obtain ⟨nn12, nr13⟩ := and_e nr12
  obtain ⟨nn13, nr14⟩ := and_e nr13
  obtain ⟨nn14, nr15⟩ := and_e nr14
  obtain ⟨nn15, nr16⟩ := and_e nr15
  obtain ⟨nn16, nr17⟩ := and_e nr16
  obtain ⟨nn17, nr18⟩ := and_e nr17
  obtain ⟨nn18, nr19⟩ := and_e nr18
  obtain ⟨nn19, nr20⟩ := and_e nr19
  obtain ⟨nn20, nr21⟩ := and_e nr20
  obtain ⟨nn21, nr22⟩ := and_e nr21
  obtain ⟨nn22, nr23⟩ := and_e nr22
  obtain ⟨nn23, nr24⟩ := and_e nr23
  obtain ⟨nn24, nr25⟩ := and_e nr24
  obtain ⟨nn25, nr26⟩ := and_e nr25
  obtain ⟨nn26, nr27⟩ := and_e nr26
  obtain ⟨nn27, nr28⟩ := and_e nr27
  obtain ⟨nn28, nr29⟩ := and_e nr28
  obtain ⟨nn29, nr30⟩ := and_e nr29
  obtain ⟨nn30, nr31⟩ := and_e nr30
  obtain ⟨nn31, nr32⟩ := and_e nr31
  obtain ⟨nn32, nr33⟩ := and_e nr32
  obtain ⟨nn33, nr34⟩ := and_e nr33
  obtain ⟨nn34, nr35⟩ := and_e nr34
  have nn35 := nr35
  obtain ⟨v_PRODUCE, ev_PRODUCE⟩ := exa_v nn0
  have Ev_PRODUCE := Exa.start ev_PRODUCE nn0
  have Sv_PRODUCE := Sta.start ev_PRODUCE (Or.inr ⟨(hw _ (List.mem_of_getElem? (i := 12) rfl)), (hw _ (List.mem_of_getElem? (i := 13) rfl))⟩)
  obtain ⟨v_FETCH, ev_FETCH⟩ := exa_v nn3
  have Ev_FETCH := Exa.start ev_FETCH nn3
  have Sv_FETCH := Sta.start ev_FETCH (Or.inr ⟨(hw _ (List.mem_of_getElem? (i := 12) rfl)), (hw _ (List.mem_of_getElem? (i := 24) rfl))⟩)
  obtain ⟨v_SHARE_GROUP_DESCRIBE, ev_SHARE_GROUP_DESCRIBE⟩ := exa_v nn5
  have Ev_SHARE_GROUP_DESCRIBE := Exa.start ev_SHARE_GROUP_DESCRIBE nn5
  have Sv_SHARE_GROUP_DESCRIBE := Sta.start ev_SHARE_GROUP_DESCRIBE (Or.inr ⟨(hw _ (List.mem_of_getElem? (i := 12) rfl)), (hw _ (List.mem_of_getElem? (i := 26) rfl))⟩)
  obtain ⟨v_DESCRIBE_SHARE_GROUP_OFFSETS, ev_DESCRIBE_SHARE_GROUP_OFFSETS⟩ := exa_v nn8
  have Ev_DESCRIBE_SHARE_GROUP_OFFSETS := Exa.start ev_DESCRIBE_SHARE_GROUP_OFFSETS nn8
  have Sv_DESCRIBE_SHARE_GROUP_OFFSETS := Sta.start ev_DESCRIBE_SHARE_GROUP_OFFSETS (Or.inr ⟨(hw _ (List.mem_of_getElem? (i := 12) rfl)), (hw _ (List.mem_of_getElem? (i := 28) rfl))⟩)
  obtain ⟨v_API_VERSIONS, ev_API_VERSIONS⟩ := exa_v nn10
  have Ev_API_VERSIONS := Exa.start ev_API_VERSIONS nn10
  have Sv_API_VERSIONS := Sta.start ev_API_VERSIONS (Or.inr ⟨(hw _ (List.mem_of_getElem? (i := 12) rfl)), (hw _ (List.mem_of_getElem? (i := 30) rfl))⟩)
  obtain ⟨v_SHARE_GROUP_HEARTBEAT, ev_SHARE_GROUP_HEARTBEAT⟩ := exa_v nn12
  have Ev_SHARE_GROUP_HEARTBEAT := Exa.start ev_SHARE_GROUP_HEARTBEAT nn12
  have Sv_SHARE_GROUP_HEARTBEAT := Sta.start ev_SHARE_GROUP_HEARTBEAT (Or.inr ⟨(hw _ (List.mem_of_getElem? (i := 12) rfl)), (hw _ (List.mem_of_getElem? (i := 32) rfl))⟩)
  obtain ⟨v_METADATA, ev_METADATA⟩ := exa_v nn15
  have Ev_METADATA := Exa.start ev_METADATA nn15
  have Sv_METADATA := Sta.start ev_METADATA (Or.inr ⟨(hw _ (List.mem_of_getElem? (i := 12) rfl)), (hw _ (List.mem_of_getElem? (i := 34) rfl))⟩)
  obtain ⟨v_SHARE_ACKNOWLEDGE, ev_SHARE_ACKNOWLEDGE⟩ := exa_v nn17
  have Ev_SHARE_ACKNOWLEDGE := Exa.start ev_SHARE_ACKNOWLEDGE nn17
  have Sv_SHARE_ACKNOWLEDGE := Sta.start ev_SHARE_ACKNOWLEDGE (Or.inr ⟨(hw _ (List.mem_of_getElem? (i := 12) rfl)), (hw _ (List.mem_of_getElem? (i := 36) rfl))⟩)
  obtain ⟨v_FIND_COORDINATOR, ev_FIND_COORDINATOR⟩ := exa_v nn20
  have Ev_FIND_COORDINATOR := Exa.start ev_FIND_COORDINATOR nn20
  have Sv_FIND_COORDINATOR := Sta.start ev_FIND_COORDINATOR (Or.inr ⟨(hw _ (List.mem_of_getElem? (i := 12) rfl)), (hw _ (List.mem_of_getElem? (i := 38) rfl))⟩)
  obtain ⟨v_LIST_GROUPS, ev_LIST_GROUPS⟩ := exa_v nn23
  have Ev_LIST_GROUPS := Exa.start ev_LIST_GROUPS nn23
  have Sv_LIST_GROUPS := Sta.start ev_LIST_GROUPS (Or.inr ⟨(hw _ (List.mem_of_getElem? (i := 12) rfl)), (hw _ (List.mem_of_getElem? (i := 40) rfl))⟩)
  obtain ⟨v_LIST_OFFSETS, ev_LIST_OFFSETS⟩ := exa_v nn27
  have Ev_LIST_OFFSETS := Exa.start ev_LIST_OFFSETS nn27
  have Sv_LIST_OFFSETS := Sta.start ev_LIST_OFFSETS (Or.inr ⟨(hw _ (List.mem_of_getElem? (i := 12) rfl)), (hw _ (List.mem_of_getElem? (i := 42) rfl))⟩)
  obtain ⟨v_SHARE_FETCH, ev_SHARE_FETCH⟩ := exa_v nn31
  have Ev_SHARE_FETCH := Exa.start ev_SHARE_FETCH nn31
  have Sv_SHARE_FETCH := Sta.start ev_SHARE_FETCH (Or.inr ⟨(hw _ (List.mem_of_getElem? (i := 12) rfl)), (hw _ (List.mem_of_getElem? (i := 44) rfl))⟩)
  have Fv_PRODUCE_minVersion := own_fld ev_PRODUCE (Term.int_eval _) (Or.inl ⟨_, rfl⟩) nn1
  have Fv_PRODUCE_maxVersion := own_fld ev_PRODUCE (Term.int_eval _) (Or.inl ⟨_, rfl⟩) nn2
  have Fv_FETCH_minVersion := own_fld ev_FETCH (Term.int_eval _) (Or.inl ⟨_, rfl⟩) nn4
  have Fv_SHARE_GROUP_DESCRIBE_minVersion := own_fld ev_SHARE_GROUP_DESCRIBE (Term.int_eval _) (Or.inl ⟨_, rfl⟩) nn6
  have Fv_SHARE_GROUP_DESCRIBE_maxVersion := own_fld ev_SHARE_GROUP_DESCRIBE (Term.int_eval _) (Or.inl ⟨_, rfl⟩) nn7
  have Fv_DESCRIBE_SHARE_GROUP_OFFSETS_minVersion := own_fld ev_DESCRIBE_SHARE_GROUP_OFFSETS (Term.int_eval _) (Or.inl ⟨_, rfl⟩) nn9
  have Fv_API_VERSIONS_minVersion := own_fld ev_API_VERSIONS (Term.int_eval _) (Or.inl ⟨_, rfl⟩) nn11
  have Fv_SHARE_GROUP_HEARTBEAT_minVersion := own_fld ev_SHARE_GROUP_HEARTBEAT (Term.int_eval _) (Or.inl ⟨_, rfl⟩) nn13
  have Fv_SHARE_GROUP_HEARTBEAT_maxVersion := own_fld ev_SHARE_GROUP_HEARTBEAT (Term.int_eval _) (Or.inl ⟨_, rfl⟩) nn14
  have Fv_METADATA_minVersion := own_fld ev_METADATA (Term.int_eval _) (Or.inl ⟨_, rfl⟩) nn16
  have Fv_SHARE_ACKNOWLEDGE_minVersion := own_fld ev_SHARE_ACKNOWLEDGE (Term.int_eval _) (Or.inl ⟨_, rfl⟩) nn18
  have Fv_SHARE_ACKNOWLEDGE_maxVersion := own_fld ev_SHARE_ACKNOWLEDGE (Term.int_eval _) (Or.inl ⟨_, rfl⟩) nn19
  have Fv_FIND_COORDINATOR_minVersion := own_fld ev_FIND_COORDINATOR (Term.int_eval _) (Or.inl ⟨_, rfl⟩) nn21
  have Fv_FIND_COORDINATOR_maxVersion := own_fld ev_FIND_COORDINATOR (Term.int_eval _) (Or.inl ⟨_, rfl⟩) nn22
  have Fv_LIST_GROUPS_minVersion := own_fld ev_LIST_GROUPS (Term.int_eval _) (Or.inl ⟨_, rfl⟩) nn24
  have Fv_LIST_GROUPS_maxVersion := own_fld ev_LIST_GROUPS (Term.int_eval _) (Or.inl ⟨_, rfl⟩) nn25
  have Fv_FETCH_maxVersion := own_fld ev_FETCH (Term.int_eval _) (Or.inl ⟨_, rfl⟩) nn26
  have Fv_LIST_OFFSETS_minVersion := own_fld ev_LIST_OFFSETS (Term.int_eval _) (Or.inl ⟨_, rfl⟩) nn28
  have Fv_LIST_OFFSETS_maxVersion := own_fld ev_LIST_OFFSETS (Term.int_eval _) (Or.inl ⟨_, rfl⟩) nn29
  have Fv_METADATA_maxVersion := own_fld ev_METADATA (Term.int_eval _) (Or.inl ⟨_, rfl⟩) nn30
  have Fv_SHARE_FETCH_minVersion := own_fld ev_SHARE_FETCH (Term.int_eval _) (Or.inl ⟨_, rfl⟩) nn32
  have Fv_SHARE_FETCH_maxVersion := own_fld ev_SHARE_FETCH (Term.int_eval _) (Or.inl ⟨_, rfl⟩) nn33
  have Fv_API_VERSIONS_maxVersion := own_fld ev_API_VERSIONS (Term.int_eval _) (Or.inl ⟨_, rfl⟩) nn34
  have Fv_DESCRIBE_SHARE_GROUP_OFFSETS_maxVersion := own_fld ev_DESCRIBE_SHARE_GROUP_OFFSETS (Term.int_eval _) (Or.inl ⟨_, rfl⟩) nn35
  obtain ⟨n, o, h1, h2, h3, _, L, rfl, ⟨rfl, N⟩, hq⟩ := rm0 l s _ hw tables_1 i0 i1 i2 v_PRODUCE v_FETCH v_SHARE_GROUP_DESCRIBE v_DESCRIBE_SHARE_GROUP_OFFSETS v_API_VERSIONS v_SHARE_GROUP_HEARTBEAT v_METADATA v_SHARE_ACKNOWLEDGE v_FIND_COORDINATOR v_LIST_GROUPS v_LIST_OFFSETS v_SHARE_FETCH s.heap s.heap.size (Nat.le_refl _) Sv_PRODUCE Ev_PRODUCE Sv_FETCH Ev_FETCH Sv_SHARE_GROUP_DESCRIBE Ev_SHARE_GROUP_DESCRIBE Sv_DESCRIBE_SHARE_GROUP_OFFSETS Ev_DESCRIBE_SHARE_GROUP_OFFSETS Sv_API_VERSIONS Ev_API_VERSIONS Sv_SHARE_GROUP_HEARTBEAT Ev_SHARE_GROUP_HEARTBEAT Sv_METADATA Ev_METADATA Sv_SHARE_ACKNOWLEDGE Ev_SHARE_ACKNOWLEDGE Sv_FIND_COORDINATOR Ev_FIND_COORDINATOR Sv_LIST_GROUPS Ev_LIST_GROUPS Sv_LIST_OFFSETS Ev_LIST_OFFSETS Sv_SHARE_FETCH Ev_SHARE_FETCH Fv_PRODUCE_minVersion Fv_PRODUCE_maxVersion Fv_FETCH_minVersion Fv_SHARE_GROUP_DESCRIBE_minVersion Fv_SHARE_GROUP_DESCRIBE_maxVersion Fv_DESCRIBE_SHARE_GROUP_OFFSETS_minVersion Fv_API_VERSIONS_minVersion Fv_SHARE_GROUP_HEARTBEAT_minVersion Fv_SHARE_GROUP_HEARTBEAT_maxVersion Fv_METADATA_minVersion Fv_SHARE_ACKNOWLEDGE_minVersion Fv_SHARE_ACKNOWLEDGE_maxVersion Fv_FIND_COORDINATOR_minVersion Fv_FIND_COORDINATOR_maxVersion Fv_LIST_GROUPS_minVersion Fv_LIST_GROUPS_maxVersion Fv_FETCH_maxVersion Fv_LIST_OFFSETS_minVersion Fv_LIST_OFFSETS_maxVersion Fv_METADATA_maxVersion Fv_SHARE_FETCH_minVersion Fv_SHARE_FETCH_maxVersion Fv_API_VERSIONS_maxVersion Fv_DESCRIBE_SHARE_GROUP_OFFSETS_maxVersion p e ha hc hk s m _ below hf ((Spec.applies_iff_loose hf).mp happ).1 ⟨rfl, State.Warmed39.refl s, rfl⟩ trivial
  refine ⟨n, _, h1, h2, h3, hpost _ _ _ _ _ _ ⟨Cond.after_iff.mpr rfl, Cond.after_iff.mpr (eq_i res_at (Term.int_eval (1)) rfl), trivial⟩ ⟨hq.1, hq.2.1, (hq.2.2.sift fun y hy => Or.inr (N y hy)).mono (by decide) (by decide)⟩⟩
theorem main_1_1 : Claimed_1_1 := comes_1 fun _ _ _ _ _ _ h hF => ⟨h.1, hF⟩
theorem main_1_2 : Claimed_1_2 := comes_1 fun _ _ _ _ _ _ h hF => ⟨h.2.1, hF⟩
end Jvm.Pilot.@@N@@
namespace Jvm.Pilot.@@N@@
open Jvm Jvm.ClassFile Sem Op Lib Jvm.Free Jvm.Stand Jvm.Pilot.@@N@@.Jvm.D
/-! MADE BY PROGRAM (witnessworld.py) out of the Statement's table words and the real class files: 12 classes; the members and pool entries that the words name. The judged class is class 1, her method 4. -/
namespace start1
open Jvm.ClassFile
def u (s : String) : CpInfo := .utf8 (stringToUtf16 s)
/-- a pool by its gaps: so many unusable entries, then the entry; so many at the end -/
def gap : Nat → List CpInfo → List CpInfo
  | 0, r => r
  | n + 1, r => .unusable :: gap n r
def poolList (es : List (Nat × CpInfo)) (last : Nat) : List CpInfo := es.foldr (fun e r => gap e.1 (e.2 :: r)) (gap last [])
def pool (es : List (Nat × CpInfo)) (last : Nat) : Array CpInfo := ⟨poolList es last⟩
def fileOf (pool : Array CpInfo) (this : Nat) (attrs : Array Attribute := #[]) (ms : Array MethodInfo := #[]) (fl : Nat := 33) (sup : Nat := 0) (ifs : Array Nat := #[]) (fds : Array FieldInfo := #[]) : ClassFile where
  minorVersion := 0
  majorVersion := 65
  constantPool := pool
  accessFlags := fl
  thisClass := this
  superClass := sup
  interfaces := ifs
  fields := fds
  methods := ms
  attributes := attrs
def plain (name : String) (sup : Option ClassId) : Class where
  name := name
  kind := .ordinary
  loader := none
  accessFlags := 33
  super := sup
  interfaces := #[]
  cf := none
  fields := #[]
  methods := #[]
  instanceTypes := #[]
  staticTypes := #[]
  resolved := #[]
  callSites := []
  init := .initialized
  statics := none
  mirror := none

def pool0 : Array CpInfo := pool [(5, u "<init>"), (0, u "()V"), (1, .class_ 10), (1, u "java/lang/Object")] 113

def k0m0 : Method := { name := "<init>", desc := "()V", sig := { parameters := [], returnType := none }, accessFlags := 1, code := none }
/-- java/lang/Object -/
def k0 : Class := { plain "java/lang/Object" none with
  accessFlags := 33
  interfaces := #[]
  cf := some (fileOf pool0 8 #[] #[{ accessFlags := 1, nameIndex := 5, descriptorIndex := 6, attributes := #[] }] 33 0 #[] #[])
  fields := #[]
  methods := #[k0m0]
  instanceTypes := #[]
  staticTypes := #[]
  resolved := Array.replicate 124 none
  statics := none }

def pool1 : Array CpInfo := pool [(2, .class_ 4), (1, u "java/lang/Object"), (0, u "<init>"), (0, u "()V"), (0, .fieldref 8 9), (0, .class_ 10), (0, .nameAndType 11 12), (0, u "com/example/sluice/sluice/protocol/ApiKey"), (0, u "PRODUCE"), (0, u "Lcom/example/sluice/sluice/protocol/ApiKey;"), (0, .fieldref 8 14), (0, .nameAndType 15 12), (0, u "FETCH"), (0, .fieldref 8 17), (0, .nameAndType 18 12), (0, u "LIST_OFFSETS"), (0, .fieldref 8 20), (0, .nameAndType 21 12), (0, u "METADATA"), (0, .fieldref 8 23), (0, .nameAndType 24 12), (0, u "FIND_COORDINATOR"), (0, .fieldref 8 26), (0, .nameAndType 27 12), (0, u "LIST_GROUPS"), (0, .fieldref 8 29), (0, .nameAndType 30 12), (0, u "API_VERSIONS"), (0, .fieldref 8 32), (0, .nameAndType 33 12), (0, u "SHARE_GROUP_HEARTBEAT"), (0, .fieldref 8 35), (0, .nameAndType 36 12), (0, u "SHARE_GROUP_DESCRIBE"), (0, .fieldref 8 38), (0, .nameAndType 39 12), (0, u "SHARE_FETCH"), (0, .fieldref 8 41), (0, .nameAndType 42 12), (0, u "SHARE_ACKNOWLEDGE"), (0, .fieldref 8 44), (0, .nameAndType 45 12), (0, u "DESCRIBE_SHARE_GROUP_OFFSETS"), (0, .integer 2147483647), (0, .methodref 48 49), (0, .class_ 50), (0, .nameAndType 51 52), (0, u "com/example/sluice/sluice/protocol/ApiKeyServesPinLaw"), (0, u "lo"), (0, u "(I)I"), (0, .methodref 48 54), (0, .nameAndType 55 52), (0, u "hi"), (0, .methodref 48 57), (0, .nameAndType 58 59), (0, u "pick"), (0, u "(I)Lcom/example/sluice/sluice/protocol/ApiKey;"), (0, .methodref 8 61), (0, .nameAndType 62 63), (0, u "serves"), (0, u "(S)Z"), (3, u "law"), (0, u "(III)Z")] 2

def k1m0 : Method := { name := "<init>", desc := "()V", sig := { parameters := [], returnType := none }, accessFlags := 1, code := none }
def k1c1 : Code := { maxStack := 2, maxLocals := 1, code := method_2_code, exceptionTable := #[], attributes := #[] }
def k1m1 : Method := { name := "pick", desc := "(I)Lcom/example/sluice/sluice/protocol/ApiKey;", sig := { parameters := [.int], returnType := some (.object "com/example/sluice/sluice/protocol/ApiKey") }, accessFlags := 10, code := some k1c1 }
def k1c2 : Code := { maxStack := 2, maxLocals := 1, code := method_3_code, exceptionTable := #[], attributes := #[] }
def k1m2 : Method := { name := "lo", desc := "(I)I", sig := { parameters := [.int], returnType := some .int }, accessFlags := 10, code := some k1c2 }
def k1c3 : Code := { maxStack := 2, maxLocals := 1, code := method_4_code, exceptionTable := #[], attributes := #[] }
def k1m3 : Method := { name := "hi", desc := "(I)I", sig := { parameters := [.int], returnType := some .int }, accessFlags := 10, code := some k1c3 }
def k1c4 : Code := { maxStack := 2, maxLocals := 12, code := code, exceptionTable := #[], attributes := #[] }
def k1m4 : Method := { name := "law", desc := "(III)Z", sig := { parameters := [.int, .int, .int], returnType := some .boolean }, accessFlags := 9, code := some k1c4 }
/-- com/example/sluice/sluice/protocol/ApiKeyServesPinLaw -/
def k1 : Class := { plain "com/example/sluice/sluice/protocol/ApiKeyServesPinLaw" (some 0) with
  accessFlags := 49
  interfaces := #[]
  cf := some (fileOf pool1 48 #[] #[{ accessFlags := 1, nameIndex := 5, descriptorIndex := 6, attributes := #[] }, { accessFlags := 10, nameIndex := 58, descriptorIndex := 59, attributes := #[] }, { accessFlags := 10, nameIndex := 51, descriptorIndex := 52, attributes := #[] }, { accessFlags := 10, nameIndex := 55, descriptorIndex := 52, attributes := #[] }, { accessFlags := 9, nameIndex := 67, descriptorIndex := 68, attributes := #[] }] 49 2 #[] #[])
  fields := #[]
  methods := #[k1m0, k1m1, k1m2, k1m3, k1m4]
  instanceTypes := #[]
  staticTypes := #[]
  resolved := Array.replicate 71 none
  statics := none }

def pool2 : Array CpInfo := pool [(1, .class_ 2), (0, u "java/lang/constant/Constable"), (0, .class_ 4), (0, u "java/lang/Object")] 6

/-- java/lang/constant/Constable -/
def k2 : Class := { plain "java/lang/constant/Constable" (some 0) with
  accessFlags := 1537
  interfaces := #[]
  cf := some (fileOf pool2 1 #[] #[] 1537 3 #[] #[])
  fields := #[]
  methods := #[]
  instanceTypes := #[]
  staticTypes := #[]
  resolved := Array.replicate 11 none
  statics := none }

def pool3 : Array CpInfo := pool [(1, .class_ 2), (0, u "java/lang/Comparable"), (0, .class_ 4), (0, u "java/lang/Object")] 7

/-- java/lang/Comparable -/
def k3 : Class := { plain "java/lang/Comparable" (some 0) with
  accessFlags := 1537
  interfaces := #[]
  cf := some (fileOf pool3 1 #[] #[] 1537 3 #[] #[])
  fields := #[]
  methods := #[]
  instanceTypes := #[]
  staticTypes := #[]
  resolved := Array.replicate 12 none
  statics := none }

def pool4 : Array CpInfo := pool [(1, .class_ 2), (0, u "java/io/Serializable"), (0, .class_ 4), (0, u "java/lang/Object")] 2

/-- java/io/Serializable -/
def k4 : Class := { plain "java/io/Serializable" (some 0) with
  accessFlags := 1537
  interfaces := #[]
  cf := some (fileOf pool4 1 #[] #[] 1537 3 #[] #[])
  fields := #[]
  methods := #[]
  instanceTypes := #[]
  staticTypes := #[]
  resolved := Array.replicate 7 none
  statics := none }

def pool5 : Array CpInfo := pool [(2, .class_ 4), (1, u "java/lang/Enum"), (0, u "name"), (0, u "Ljava/lang/String;"), (2, u "ordinal"), (0, u "I"), (1, .class_ 14), (1, u "java/lang/Object"), (4, u "hash"), (86, .class_ 108), (1, u "java/lang/Enum$EnumDesc"), (2, .class_ 112), (0, u "java/lang/constant/Constable"), (0, .class_ 114), (0, u "java/lang/Comparable"), (0, .class_ 116), (0, u "java/io/Serializable")] 87

/-- java/lang/Enum -/
def k5 : Class := { plain "java/lang/Enum" (some 0) with
  accessFlags := 1057
  interfaces := #[2, 3, 4]
  cf := some (fileOf pool5 2 #[.nestMembers #[106]] #[] 1057 12 #[111, 113, 115] #[{ accessFlags := 18, nameIndex := 5, descriptorIndex := 6, attributes := #[] }, { accessFlags := 18, nameIndex := 9, descriptorIndex := 10, attributes := #[] }, { accessFlags := 2, nameIndex := 19, descriptorIndex := 10, attributes := #[] }])
  fields := #[{ name := "name", type := (.object "java/lang/String"), accessFlags := 18, slot := 0, constantValue := 0 }, { name := "ordinal", type := .int, accessFlags := 18, slot := 1, constantValue := 0 }, { name := "hash", type := .int, accessFlags := 2, slot := 2, constantValue := 0 }]
  methods := #[]
  instanceTypes := #[(.object "java/lang/String"), .int, .int]
  staticTypes := #[]
  resolved := Array.replicate 204 none
  statics := none }

def pool6 : Array CpInfo := pool [(1, .class_ 2), (0, u "com/example/sluice/sluice/protocol/ApiKey"), (2, u "PRODUCE"), (0, u "Lcom/example/sluice/sluice/protocol/ApiKey;"), (2, u "FETCH"), (2, u "LIST_OFFSETS"), (2, u "METADATA"), (2, u "FIND_COORDINATOR"), (2, u "LIST_GROUPS"), (2, u "API_VERSIONS"), (2, u "SHARE_GROUP_HEARTBEAT"), (2, u "SHARE_GROUP_DESCRIBE"), (2, u "SHARE_FETCH"), (2, u "SHARE_ACKNOWLEDGE"), (2, u "DESCRIBE_SHARE_GROUP_OFFSETS"), (2, u "$VALUES"), (0, u "[Lcom/example/sluice/sluice/protocol/ApiKey;"), (6, .class_ 52), (1, u "java/lang/Enum"), (8, u "id"), (0, u "S"), (0, .fieldref 1 64), (0, .nameAndType 65 62), (0, u "minVersion"), (0, .fieldref 1 67), (0, .nameAndType 68 62), (0, u "maxVersion"), (2, u "firstFlexibleVersion"), (7, u "(S)Z"), (28, u "serves")] 6

def k6c0 : Code := { maxStack := 2, maxLocals := 2, code := prog_30_method_8_code, exceptionTable := #[], attributes := #[] }
def k6m0 : Method := { name := "serves", desc := "(S)Z", sig := { parameters := [.short], returnType := some .boolean }, accessFlags := 1, code := some k6c0 }
/-- com/example/sluice/sluice/protocol/ApiKey -/
def k6 : Class := { plain "com/example/sluice/sluice/protocol/ApiKey" (some 5) with
  accessFlags := 16433
  interfaces := #[]
  cf := some (fileOf pool6 1 #[] #[{ accessFlags := 1, nameIndex := 108, descriptorIndex := 79, attributes := #[] }] 16433 50 #[] #[{ accessFlags := 16409, nameIndex := 5, descriptorIndex := 6, attributes := #[] }, { accessFlags := 16409, nameIndex := 9, descriptorIndex := 6, attributes := #[] }, { accessFlags := 16409, nameIndex := 12, descriptorIndex := 6, attributes := #[] }, { accessFlags := 16409, nameIndex := 15, descriptorIndex := 6, attributes := #[] }, { accessFlags := 16409, nameIndex := 18, descriptorIndex := 6, attributes := #[] }, { accessFlags := 16409, nameIndex := 21, descriptorIndex := 6, attributes := #[] }, { accessFlags := 16409, nameIndex := 24, descriptorIndex := 6, attributes := #[] }, { accessFlags := 16409, nameIndex := 27, descriptorIndex := 6, attributes := #[] }, { accessFlags := 16409, nameIndex := 30, descriptorIndex := 6, attributes := #[] }, { accessFlags := 16409, nameIndex := 33, descriptorIndex := 6, attributes := #[] }, { accessFlags := 16409, nameIndex := 36, descriptorIndex := 6, attributes := #[] }, { accessFlags := 16409, nameIndex := 39, descriptorIndex := 6, attributes := #[] }, { accessFlags := 18, nameIndex := 61, descriptorIndex := 62, attributes := #[] }, { accessFlags := 18, nameIndex := 65, descriptorIndex := 62, attributes := #[] }, { accessFlags := 18, nameIndex := 68, descriptorIndex := 62, attributes := #[] }, { accessFlags := 18, nameIndex := 71, descriptorIndex := 62, attributes := #[] }, { accessFlags := 4122, nameIndex := 42, descriptorIndex := 43, attributes := #[] }])
  fields := #[{ name := "PRODUCE", type := (.object "com/example/sluice/sluice/protocol/ApiKey"), accessFlags := 16409, slot := 0, constantValue := 0 }, { name := "FETCH", type := (.object "com/example/sluice/sluice/protocol/ApiKey"), accessFlags := 16409, slot := 1, constantValue := 0 }, { name := "LIST_OFFSETS", type := (.object "com/example/sluice/sluice/protocol/ApiKey"), accessFlags := 16409, slot := 2, constantValue := 0 }, { name := "METADATA", type := (.object "com/example/sluice/sluice/protocol/ApiKey"), accessFlags := 16409, slot := 3, constantValue := 0 }, { name := "FIND_COORDINATOR", type := (.object "com/example/sluice/sluice/protocol/ApiKey"), accessFlags := 16409, slot := 4, constantValue := 0 }, { name := "LIST_GROUPS", type := (.object "com/example/sluice/sluice/protocol/ApiKey"), accessFlags := 16409, slot := 5, constantValue := 0 }, { name := "API_VERSIONS", type := (.object "com/example/sluice/sluice/protocol/ApiKey"), accessFlags := 16409, slot := 6, constantValue := 0 }, { name := "SHARE_GROUP_HEARTBEAT", type := (.object "com/example/sluice/sluice/protocol/ApiKey"), accessFlags := 16409, slot := 7, constantValue := 0 }, { name := "SHARE_GROUP_DESCRIBE", type := (.object "com/example/sluice/sluice/protocol/ApiKey"), accessFlags := 16409, slot := 8, constantValue := 0 }, { name := "SHARE_FETCH", type := (.object "com/example/sluice/sluice/protocol/ApiKey"), accessFlags := 16409, slot := 9, constantValue := 0 }, { name := "SHARE_ACKNOWLEDGE", type := (.object "com/example/sluice/sluice/protocol/ApiKey"), accessFlags := 16409, slot := 10, constantValue := 0 }, { name := "DESCRIBE_SHARE_GROUP_OFFSETS", type := (.object "com/example/sluice/sluice/protocol/ApiKey"), accessFlags := 16409, slot := 11, constantValue := 0 }, { name := "id", type := .short, accessFlags := 18, slot := 3, constantValue := 0 }, { name := "minVersion", type := .short, accessFlags := 18, slot := 4, constantValue := 0 }, { name := "maxVersion", type := .short, accessFlags := 18, slot := 5, constantValue := 0 }, { name := "firstFlexibleVersion", type := .short, accessFlags := 18, slot := 6, constantValue := 0 }, { name := "$VALUES", type := (.array (.object "com/example/sluice/sluice/protocol/ApiKey")), accessFlags := 4122, slot := 12, constantValue := 0 }]
  methods := #[k6m0]
  instanceTypes := #[(.object "java/lang/String"), .int, .int, .short, .short, .short, .short]
  staticTypes := #[(.object "com/example/sluice/sluice/protocol/ApiKey"), (.object "com/example/sluice/sluice/protocol/ApiKey"), (.object "com/example/sluice/sluice/protocol/ApiKey"), (.object "com/example/sluice/sluice/protocol/ApiKey"), (.object "com/example/sluice/sluice/protocol/ApiKey"), (.object "com/example/sluice/sluice/protocol/ApiKey"), (.object "com/example/sluice/sluice/protocol/ApiKey"), (.object "com/example/sluice/sluice/protocol/ApiKey"), (.object "com/example/sluice/sluice/protocol/ApiKey"), (.object "com/example/sluice/sluice/protocol/ApiKey"), (.object "com/example/sluice/sluice/protocol/ApiKey"), (.object "com/example/sluice/sluice/protocol/ApiKey"), (.array (.object "com/example/sluice/sluice/protocol/ApiKey"))]
  resolved := Array.replicate 115 none
  statics := some 0 }

def pool7 : Array CpInfo := pool [(1, u "java/lang/Cloneable"), (0, .class_ 1), (0, u "java/lang/Object"), (0, .class_ 3)] 3

/-- java/lang/Cloneable -/
def k7 : Class := { plain "java/lang/Cloneable" (some 0) with
  accessFlags := 1537
  interfaces := #[]
  cf := some (fileOf pool7 2 #[] #[] 1537 4 #[] #[])
  fields := #[]
  methods := #[]
  instanceTypes := #[]
  staticTypes := #[]
  resolved := Array.replicate 8 none
  statics := none }

/-- the primitive byte -/
def k8 : Class := { plain "byte" none with kind := .primitive 'B', accessFlags := 0x411 }
/-- [B -/
def k9 : Class := { plain "[B" (some 0) with kind := .array 8 .byte, interfaces := #[7, 4], accessFlags := 1041 }

/-- the primitive int -/
def k10 : Class := { plain "int" none with kind := .primitive 'I', accessFlags := 0x411 }
/-- [I -/
def k11 : Class := { plain "[I" (some 0) with kind := .array 10 .int, interfaces := #[7, 4], accessFlags := 1041 }

def heap : Heap := #[{ cls := 6, slots := #[.ref 1, .ref 2, .ref 11, .ref 7, .ref 9, .ref 10, .ref 5, .ref 6, .ref 3, .ref 12, .ref 8, .ref 4, .null], vm := .statics 6 },
  { cls := 6, slots := #[.null, .int 0, .int 0, .int 0, .int 3, .int 7, .int 0], vm := .none },
  { cls := 6, slots := #[.null, .int 0, .int 0, .int 0, .int 4, .int 4, .int 0], vm := .none },
  { cls := 6, slots := #[.null, .int 0, .int 0, .int 0, .int 1, .int 1, .int 0], vm := .none },
  { cls := 6, slots := #[.null, .int 0, .int 0, .int 0, .int 0, .int 0, .int 0], vm := .none },
  { cls := 6, slots := #[.null, .int 0, .int 0, .int 0, .int 0, .int 3, .int 0], vm := .none },
  { cls := 6, slots := #[.null, .int 0, .int 0, .int 0, .int 1, .int 1, .int 0], vm := .none },
  { cls := 6, slots := #[.null, .int 0, .int 0, .int 0, .int 0, .int 12, .int 0], vm := .none },
  { cls := 6, slots := #[.null, .int 0, .int 0, .int 0, .int 1, .int 1, .int 0], vm := .none },
  { cls := 6, slots := #[.null, .int 0, .int 0, .int 0, .int 0, .int 4, .int 0], vm := .none },
  { cls := 6, slots := #[.null, .int 0, .int 0, .int 0, .int 5, .int 5, .int 0], vm := .none },
  { cls := 6, slots := #[.null, .int 0, .int 0, .int 0, .int 1, .int 2, .int 0], vm := .none },
  { cls := 6, slots := #[.null, .int 0, .int 0, .int 0, .int 1, .int 1, .int 0], vm := .none }]
def classes : Array Class := #[k0, k1, k2, k3, k4, k5, k6, k7, k8, k9, k10, k11]
def interned : List (Array UInt16 × Addr) := []
def slotsUsed : Nat := 97
def theMethod : MethodId := ⟨1, 4⟩
def args0 : Array Value := #[.int 77, .int 99, .int 3]
def aboutOver (below : List Frame) : State where
  vm := { classes := classes, interned := interned.toArray }
  heap := heap
  slotsUsed := slotsUsed
  threads := #[{ frames := .invoking theMethod args0 :: below }]
def below0 : List Frame := [.native { method := ⟨0, 0⟩, args := #[] }]
def about1 : State := aboutOver below0
def p0 : Program := .bare "" "" ""
def e0 : Env := launch0.env 0 0 0
theorem w_frames : about1.frames = Frame.invoking theMethod args0 :: below0 := rfl
set_option maxRecDepth 65536 in
theorem w_args : argsFit about1.vm theMethod args0 = true := by decide +kernel
set_option maxRecDepth 65536 in
theorem w_heap : heapFits about1 = true := by decide +kernel
set_option maxRecDepth 65536 in
theorem w_runnable : about1.curStatus? = some .runnable := by decide +kernel
set_option maxRecDepth 65536 in
theorem w_alone : about1.alone = true := by decide +kernel
set_option maxRecDepth 65536 in
theorem w_named : about1.methodNamed? x = some theMethod := by decide +kernel
set_option maxRecDepth 65536 in
theorem w_hears : about1.hears theMethod below0 = true := by decide +kernel
set_option maxRecDepth 65536 in
theorem w_ripe : about1.ripe theMethod args0 below0 = true := by decide +kernel
theorem w_running : about1.status = .running := rfl
set_option maxRecDepth 65536 in
theorem w_room : about1.hasRoom e0.platform room_1 = true :=
  launch0.hasRoom_least _ room_1 (by decide +kernel) (by decide +kernel) (by decide +kernel) (by decide +kernel) (by decide +kernel) (by decide +kernel)
theorem allAtoms_all (ts : List Jvm.Cond) (a : Array Jvm.Value) (st : Jvm.State) : (allAtoms ts).before a st = ts.all (fun c => c.before a st) := by
  induction ts with
  | nil => rfl
  | cons c t ih =>
    show (Jvm.Cond.and c (allAtoms t)).before a st = _
    rw [Jvm.Cond.before_and, ih, List.all_cons]
def words1 : List Jvm.Cond := Jvm.Cond.code x code maxLocals ret :: tables_1
/-- a 'code' word, met by the world's own term for the bytes: nothing is compared byte by byte -/
theorem code_word {y : MethodName} {bytes : ByteArray} {mx : Nat} {rt : Option FieldType} {a : Array Value} {s : State} {m : MethodId} {meth : Method} {c : Code} (h1 : s.methodNamed? y = some m) (h2 : s.vm.method? m = some meth) (h3 : meth.code = some c) (h4 : c.code = bytes)
    (h5 : (c.maxLocals == mx && c.exceptionTable.isEmpty && decide (c.maxStack ≤ mostOperands) && decide (meth.sig.returnType = rt) && !meth.locks && decide (parseMethodDescriptor y.desc = some meth.sig)) = true) : (Jvm.Cond.code y bytes mx rt).before a s = true := by
  simp only [Bool.and_eq_true, beq_iff_eq, Bool.not_eq_true', decide_eq_true_eq] at h5
  obtain ⟨⟨⟨⟨⟨g1, g2⟩, g3⟩, g4⟩, g5⟩, g6⟩ := h5
  simp [Cond.before, Cond.holds, Cond.value, h1, h2, h3, h4, g1, g2, g3, g4, g5, g6]
def isCode : Jvm.Cond → Bool
  | .code _ _ _ _ => true
  | _ => false
theorem all_split {L : List Jvm.Cond} {P : Jvm.Cond → Bool} (h1 : L.all (fun c => isCode c || P c) = true) (h2 : ∀ c ∈ L.filter isCode, P c = true) : L.all P = true := by
  refine List.all_eq_true.mpr fun c hc => ?_
  have h := List.all_eq_true.mp h1 c hc
  rcases Bool.eq_false_or_eq_true (isCode c) with hi | hi
  · exact h2 c (List.mem_filter.mpr ⟨hc, hi⟩)
  · simpa [hi] using h
set_option maxRecDepth 65536 in
theorem w_c0 : (Jvm.Cond.code x code maxLocals ret).before args0 about1 = true := code_word (m := ⟨1, 4⟩) (meth := k1m4) (c := k1c4) (by decide +kernel) rfl rfl rfl (by decide +kernel)
set_option maxRecDepth 65536 in
theorem w_c1 : (Jvm.Cond.code ({ cls := "com/example/sluice/sluice/protocol/ApiKeyServesPinLaw", name := "lo", desc := "(I)I" } : Jvm.MethodName) method_3_code (1 : Nat) (Option.some Jvm.ClassFile.FieldType.int)).before args0 about1 = true := code_word (m := ⟨1, 2⟩) (meth := k1m2) (c := k1c2) (by decide +kernel) rfl rfl rfl (by decide +kernel)
set_option maxRecDepth 65536 in
theorem w_c2 : (Jvm.Cond.code ({ cls := "com/example/sluice/sluice/protocol/ApiKeyServesPinLaw", name := "hi", desc := "(I)I" } : Jvm.MethodName) method_4_code (1 : Nat) (Option.some Jvm.ClassFile.FieldType.int)).before args0 about1 = true := code_word (m := ⟨1, 3⟩) (meth := k1m3) (c := k1c3) (by decide +kernel) rfl rfl rfl (by decide +kernel)
set_option maxRecDepth 65536 in
theorem w_c3 : (Jvm.Cond.code ({ cls := "com/example/sluice/sluice/protocol/ApiKeyServesPinLaw", name := "pick", desc := "(I)Lcom/example/sluice/sluice/protocol/ApiKey;" } : Jvm.MethodName) method_2_code (1 : Nat) (Option.some (Jvm.ClassFile.FieldType.object "com/example/sluice/sluice/protocol/ApiKey"))).before args0 about1 = true := code_word (m := ⟨1, 1⟩) (meth := k1m1) (c := k1c1) (by decide +kernel) rfl rfl rfl (by decide +kernel)
set_option maxRecDepth 65536 in
theorem w_c4 : (Jvm.Cond.code ({ cls := "com/example/sluice/sluice/protocol/ApiKey", name := "serves", desc := "(S)Z" } : Jvm.MethodName) prog_30_method_8_code (2 : Nat) (Option.some Jvm.ClassFile.FieldType.boolean)).before args0 about1 = true := code_word (m := ⟨6, 0⟩) (meth := k6m0) (c := k6c0) (by decide +kernel) rfl rfl rfl (by decide +kernel)
def codes1 : List Jvm.Cond := [Jvm.Cond.code x code maxLocals ret, Jvm.Cond.code ({ cls := "com/example/sluice/sluice/protocol/ApiKeyServesPinLaw", name := "lo", desc := "(I)I" } : Jvm.MethodName) method_3_code (1 : Nat) (Option.some Jvm.ClassFile.FieldType.int), Jvm.Cond.code ({ cls := "com/example/sluice/sluice/protocol/ApiKeyServesPinLaw", name := "hi", desc := "(I)I" } : Jvm.MethodName) method_4_code (1 : Nat) (Option.some Jvm.ClassFile.FieldType.int), Jvm.Cond.code ({ cls := "com/example/sluice/sluice/protocol/ApiKeyServesPinLaw", name := "pick", desc := "(I)Lcom/example/sluice/sluice/protocol/ApiKey;" } : Jvm.MethodName) method_2_code (1 : Nat) (Option.some (Jvm.ClassFile.FieldType.object "com/example/sluice/sluice/protocol/ApiKey")), Jvm.Cond.code ({ cls := "com/example/sluice/sluice/protocol/ApiKey", name := "serves", desc := "(S)Z" } : Jvm.MethodName) prog_30_method_8_code (2 : Nat) (Option.some Jvm.ClassFile.FieldType.boolean)]
set_option maxRecDepth 65536 in
theorem codes_eq : words1.filter isCode = codes1 := rfl
theorem w_codes : ∀ c ∈ words1.filter isCode, c.before args0 about1 = true := by
  rw [codes_eq]
  intro c hc
  simp only [codes1, List.mem_cons, List.not_mem_nil, or_false] at hc
  rcases hc with rfl | rfl | rfl | rfl | rfl
  · exact w_c0
  · exact w_c1
  · exact w_c2
  · exact w_c3
  · exact w_c4
set_option maxRecDepth 65536 in
theorem w_t1 : (words1.take 24).all (fun c => isCode c || c.before args0 about1) = true := by decide +kernel
set_option maxRecDepth 65536 in
theorem w_t2 : (words1.drop 24).all (fun c => isCode c || c.before args0 about1) = true := by decide +kernel
theorem w_tables : (allAtoms (Jvm.Cond.code x code maxLocals ret :: tables_1)).before args0 about1 = true := by
  rw [allAtoms_all]
  show words1.all (fun c => c.before args0 about1) = true
  refine all_split ?_ w_codes
  rw [← List.take_append_drop 24 words1, List.all_append, w_t1, w_t2]
  rfl
set_option maxRecDepth 65536 in
theorem w_case : (Jvm.Cond.and given_1 narrow_1).before args0 about1 = true := by decide +kernel
theorem w_applies : (headSpec (Jvm.Cond.code x code maxLocals ret :: tables_1) room_1).applies x e0.platform about1 = true :=
  (Spec.applies_iff w_frames).mpr ⟨w_running, w_runnable, w_alone, w_named, w_hears, w_ripe, w_room, w_tables⟩
theorem atStart : AtStart classFile x code maxLocals ret World_1 tables_1 room_1 Calls_1 rest_1 Pre_1 launch0 p0 e0 about1 theMethod args0 below0 :=
  ⟨lists_1, trivial, launch0.admits_env _ _ _, launch0.least_env, fairChoices_fair.cas, fairChoices_fair.clock, w_frames, w_args, w_heap, w_applies, trivial, trivial, w_case⟩
end start1
theorem witness_1 : WitnessClaimed_1 := ⟨start1.p0, start1.e0, start1.about1, start1.theMethod, start1.args0, start1.below0, start1.atStart⟩
end Jvm.Pilot.@@N@@
