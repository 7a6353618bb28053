import JvmDerived
import JvmDerived.Pilot.@@N@@Statement
import JvmDerived.Pilot.@@N@@Code
set_option linter.unusedVariables false
set_option linter.unusedSimpArgs false
namespace Jvm.RoadKit
open Sem ClassFile Op Lib Jvm.Stand Jvm.Free Jvm.LawKit
section New
variable {p : Program} {l : Launch} {e : Env} {R : Room} {s : State} {m : MethodId} {args : Array Value} {below : List Frame} {meth : Method} {c : Code} {T : State} {locs : List Loc} {cells slots : Nat}
theorem retI (X : Stand p l e R s m args below meth c T locs cells slots) (hx : p.tables.exec = Jvm.exec) {pc : Nat} {Ls : Array Slot} {z : Int32} {rest : List Value} (hret : meth.sig.returnType = some .int) (hd : decode c.code pc = .ok (.ireturn, 1)) {fs : List Frame}
    (hl : ∀ (f : JFrame) (acts : List Action), f.method = m → f.locked = none → f.entered = [] → (doReturn e (T.setTop f) acts (some (.int z))).1 = T.setFrames fs) : Steps p.tables e below (T.setTop (mkF m pc Ls (.int z :: rest))) (T.setFrames fs) := by
  have hm' : T.vm.method? m = some meth := X.method'
  have hn : narrow .int (.int z) = .int z := rfl
  show Steps p.tables e below (T.setTop { method := m, pc := pc, locals := Ls, stack := _ :: rest, locked := none }) _
  jvm_step X.here [X.here.top, hx, hd, hm', hret, hn]
  first | (intro acts; rw [hl _ acts rfl rfl rfl]) | rw [hl _ _ rfl rfl rfl]
  exact Steps.refl _
end New
end Jvm.RoadKit
@@BLOCK:NumsL.lean.txt@@
namespace Jvm.Pilot.@@N@@
open Jvm Jvm.ClassFile Sem Op Lib Jvm.Free Jvm.Stand Jvm.LawKit Jvm.RoadKit Bundle Jvm.Pilot.@@N@@.Jvm.D
theorem own_eqv {args : Array Value} {s : State} {a b : Term} {x v : Value} (hb : b.eval args s none [] s = some v) (h : (Jvm.Cond.eq a b).value args s none s [] = some true) (hv : (∃ k, v = .int k) ∨ v = .null ∨ ∃ r, v = .ref r) : a.eval args s none [] s = some v := by
  obtain ⟨x, y, h1, h2, -, -⟩ := cmp_v (Or.inl h)
  cases hb.symm.trans h2
  rw [h1]
  rcases hv with ⟨k, rfl⟩ | rfl | ⟨r, rfl⟩ <;> cases x <;> simp [Cond.value, h1, hb] at h ⊢ <;> exact h
theorem own_fld {args : Array Value} {s : State} {t u : Term} {C n d : String} {b : Addr} {v : Value} (ev : t.eval args s none [] s = some (.ref b)) (hb : u.eval args s none [] s = some v) (hv : (∃ k, v = .int k) ∨ v = .null ∨ ∃ r, v = .ref r) (h : (Jvm.Cond.eq (.field t C n d) u).value args s none s [] = some true) : Fld s s.heap b C n d v := by
  have e := own_eqv (x := v) hb h hv
  rw [fld_at ev] at e
  exact Fld.start e
theorem own_uniq {Z : State} {h : Heap} {a : Addr} {C n d : String} {v w : Value} (F : Fld Z h a C n d v) (G : Fld Z h a C n d w) : v = w := by
  obtain ⟨c1, cf1, k1, i1, f1, a1, a2, -, -, -, -, a7⟩ := F
  obtain ⟨c2, cf2, k2, i2, f2, b1, b2, -, -, -, -, b7⟩ := G
  cases a1.symm.trans b1
  cases a2.symm.trans b2
  exact Option.some.inj (a7.symm.trans b7)
theorem own_apart {Z : State} {h : Heap} {a b : Addr} {C n d : String} {v w : Value} (F : Fld Z h a C n d v) (G : Fld Z h b C n d w) (q : v ≠ w) : a ≠ b := fun e => q (own_uniq F (e ▸ G))

theorem own_last (p : Int32) (h : 0 ≤ p.toInt ∧ p.toInt < 5) (h0 : ¬ p = 0) (h1 : ¬ p = 1) (h2 : ¬ p = 2) (h3 : ¬ p = 3) : p = 4 := by
  rw [← Int32.toInt_inj] at *
  simp only [show (0 : Int32).toInt = 0 from rfl, show (1 : Int32).toInt = 1 from rfl, show (2 : Int32).toInt = 2 from rfl, show (3 : Int32).toInt = 3 from rfl, show (4 : Int32).toInt = 4 from rfl] at *
  omega
theorem own_or (p : Int32) (h : 0 ≤ p.toInt ∧ p.toInt < 5) : p = 0 ∨ p = 1 ∨ p = 2 ∨ p = 3 ∨ p = 4 := by
  by_cases h0 : p = 0; · exact Or.inl h0
  by_cases h1 : p = 1; · exact Or.inr (Or.inl h1)
  by_cases h2 : p = 2; · exact Or.inr (Or.inr (Or.inl h2))
  by_cases h3 : p = 3; · exact Or.inr (Or.inr (Or.inr (Or.inl h3)))
  exact Or.inr (Or.inr (Or.inr (Or.inr (own_last p h h0 h1 h2 h3))))
theorem own_mod (p : Int32) : 0 ≤ ((p &&& (2147483647 : Int32)) % (5 : Int32)).toInt ∧ ((p &&& (2147483647 : Int32)) % (5 : Int32)).toInt < 5 := by
  have e1 : (p &&& (2147483647 : Int32)).toInt = p.toInt % 2 ^ 31 := Jvm.Kit.i32_mask p (2147483647 : Int32) (k := 31) (by decide) (by decide)
  have e2 := Jvm.Kit.i32_rem_nonneg (x := (p &&& (2147483647 : Int32))) (y := (5 : Int32)) (by omega)
  rw [e2, show (5 : Int32).toInt = 5 from rfl]
  omega
theorem d1_0 : decode method_2_code 0 = .ok (.iload_n 0, 1) := by decide +kernel
theorem d1_1 : decode method_2_code 1 = .ok (.ifCond .ne 7, 3) := by decide +kernel
theorem d1_4 : decode method_2_code 4 = .ok (.getstatic 7, 3) := by decide +kernel
theorem d1_7 : decode method_2_code 7 = .ok (.areturn, 1) := by decide +kernel
theorem d1_8 : decode method_2_code 8 = .ok (.iload_n 0, 1) := by decide +kernel
theorem d1_9 : decode method_2_code 9 = .ok (.iconst 1, 1) := by decide +kernel
theorem d1_10 : decode method_2_code 10 = .ok (.if_icmp .ne 7, 3) := by decide +kernel
theorem d1_13 : decode method_2_code 13 = .ok (.getstatic 13, 3) := by decide +kernel
theorem d1_16 : decode method_2_code 16 = .ok (.areturn, 1) := by decide +kernel
theorem d1_17 : decode method_2_code 17 = .ok (.iload_n 0, 1) := by decide +kernel
theorem d1_18 : decode method_2_code 18 = .ok (.iconst 2, 1) := by decide +kernel
theorem d1_19 : decode method_2_code 19 = .ok (.if_icmp .ne 7, 3) := by decide +kernel
theorem d1_22 : decode method_2_code 22 = .ok (.getstatic 16, 3) := by decide +kernel
theorem d1_25 : decode method_2_code 25 = .ok (.areturn, 1) := by decide +kernel
theorem d1_26 : decode method_2_code 26 = .ok (.iload_n 0, 1) := by decide +kernel
theorem d1_27 : decode method_2_code 27 = .ok (.iconst 3, 1) := by decide +kernel
theorem d1_28 : decode method_2_code 28 = .ok (.if_icmp .ne 7, 3) := by decide +kernel
theorem d1_31 : decode method_2_code 31 = .ok (.getstatic 19, 3) := by decide +kernel
theorem d1_34 : decode method_2_code 34 = .ok (.areturn, 1) := by decide +kernel
theorem d1_35 : decode method_2_code 35 = .ok (.getstatic 22, 3) := by decide +kernel
theorem d1_38 : decode method_2_code 38 = .ok (.areturn, 1) := by decide +kernel
theorem pn_DwarfClassCardsCarryPointsPinLaw : plainName "com/example/runehall/runehall/tavern/DwarfClassCardsCarryPointsPinLaw" = true := by first | (simp [plainName, overriddenIn]; done) | decide +kernel
theorem ef1 (m : MethodId) (x0 : Int32) : entryFrame m #[(.int x0)] 1 = mkF m 0 #[.val (.int x0)] [] := by first | (simp [entryFrame, mkF, argsToLocals, Value.category]; done) | rfl
def Q1 (Z : State) (p0 : Int32) (v_WARRIOR : Addr) (v_HUNTER : Addr) (v_BLACKSMITH : Addr) (v_EXPLORER : Addr) (v_MINER : Addr) (h0 : Heap) (n0 : Nat) (v : Option Value) (h : Heap) (L : List Loc) : Prop := ∃ bb : Addr, v = some (.ref bb) ∧ Fr n0 L ∧ h = h0 ∧ Exa Z h bb "com/example/runehall/runehall/tavern/DwarfClass" ∧ Fld Z h bb "java/lang/Enum" "ordinal" "I" (.int p0) ∧ (p0 = (1 : Int32) → bb = v_HUNTER) ∧ (p0 = (3 : Int32) → bb = v_BLACKSMITH)
set_option maxRecDepth 65536 in
set_option maxHeartbeats 40000000 in
theorem rm1 (l : Launch) (Z : State) (a0 : Array Value) (hw : ∀ d ∈ tables_1, d.before a0 Z = true) (ws : List Jvm.Cond) (p0 : Int32) (v_WARRIOR : Addr) (v_HUNTER : Addr) (v_BLACKSMITH : Addr) (v_EXPLORER : Addr) (v_MINER : Addr) (h0 : Heap) (n0 : Nat) (Z0 : n0 ≤ h0.size) (hr : 0 ≤ p0.toInt ∧ p0.toInt < 5) (Sv_WARRIOR : Sta Z h0 "com/example/runehall/runehall/tavern/DwarfClass" "WARRIOR" "Lcom/example/runehall/runehall/tavern/DwarfClass;" (.ref v_WARRIOR)) (Ev_WARRIOR : Exa Z h0 v_WARRIOR "com/example/runehall/runehall/tavern/DwarfClass") (Sv_HUNTER : Sta Z h0 "com/example/runehall/runehall/tavern/DwarfClass" "HUNTER" "Lcom/example/runehall/runehall/tavern/DwarfClass;" (.ref v_HUNTER)) (Ev_HUNTER : Exa Z h0 v_HUNTER "com/example/runehall/runehall/tavern/DwarfClass") (Sv_BLACKSMITH : Sta Z h0 "com/example/runehall/runehall/tavern/DwarfClass" "BLACKSMITH" "Lcom/example/runehall/runehall/tavern/DwarfClass;" (.ref v_BLACKSMITH)) (Ev_BLACKSMITH : Exa Z h0 v_BLACKSMITH "com/example/runehall/runehall/tavern/DwarfClass") (Sv_EXPLORER : Sta Z h0 "com/example/runehall/runehall/tavern/DwarfClass" "EXPLORER" "Lcom/example/runehall/runehall/tavern/DwarfClass;" (.ref v_EXPLORER)) (Ev_EXPLORER : Exa Z h0 v_EXPLORER "com/example/runehall/runehall/tavern/DwarfClass") (Sv_MINER : Sta Z h0 "com/example/runehall/runehall/tavern/DwarfClass" "MINER" "Lcom/example/runehall/runehall/tavern/DwarfClass;" (.ref v_MINER)) (Ev_MINER : Exa Z h0 v_MINER "com/example/runehall/runehall/tavern/DwarfClass") (Fv_WARRIOR_ordinal : Fld Z h0 v_WARRIOR "java/lang/Enum" "ordinal" "I" (.int (0 : Int32))) (Fv_HUNTER_ordinal : Fld Z h0 v_HUNTER "java/lang/Enum" "ordinal" "I" (.int (1 : Int32))) (Fv_BLACKSMITH_ordinal : Fld Z h0 v_BLACKSMITH "java/lang/Enum" "ordinal" "I" (.int (3 : Int32))) (Fv_EXPLORER_ordinal : Fld Z h0 v_EXPLORER "java/lang/Enum" "ordinal" "I" (.int (4 : Int32))) (Fv_MINER_ordinal : Fld Z h0 v_MINER "java/lang/Enum" "ordinal" "I" (.int (2 : Int32))) :
    MetFree l (⟨"com/example/runehall/runehall/tavern/DwarfClassCardsCarryPointsPinLaw", "pick", "(I)Lcom/example/runehall/runehall/tavern/DwarfClass;"⟩ : MethodName) (head1 (Jvm.Cond.code (⟨"com/example/runehall/runehall/tavern/DwarfClassCardsCarryPointsPinLaw", "pick", "(I)Lcom/example/runehall/runehall/tavern/DwarfClass;"⟩ : MethodName) method_2_code 1 (some (.object "com/example/runehall/runehall/tavern/DwarfClass")) :: ws) ({ frames := 0, cells := 0, slots := 0, locals := 0 } : Room)) (fun a U => a = #[(.int p0)] ∧ Z.Warmed39 U.vm ∧ U.heap = h0) (fun _ _ _ _ _ => True) (fun _ U o U' => ∃ v L, o = .returned v ∧ Q1 Z p0 v_WARRIOR v_HUNTER v_BLACKSMITH v_EXPLORER v_MINER h0 n0 v U'.heap L ∧ FrameEnd U o U' L ({ frames := 0, cells := 0, slots := 0, locals := 0 } : Room).cells ({ frames := 0, cells := 0, slots := 0, locals := 0 } : Room).slots) := by
  refine MetFree.of_bodySF (plainFor_of_name pn_DwarfClassCardsCarryPointsPinLaw) hisR ?_
  intro p e s m args below meth c s₁ Bd hml0 hP hK
  obtain ⟨rfl, hZ, hh⟩ := hP
  have hx := Bd.exec
  have hby := Bd.bytes
  have hml : c.maxLocals = 1 := hml0
  have hown : s.vm.findClass "com/example/runehall/runehall/tavern/DwarfClassCardsCarryPointsPinLaw" = some m.cls := findClass_of_methodNamed Bd.named
  have hnm := (name_of_methodNamed Bd.named Bd.method).1
  have X0 : Stand p l e ({ frames := 0, cells := 0, slots := 0, locals := 0 } : Room) s m #[(.int p0)] below meth c s₁ [] 0 0 := Stand.of_body Bd
  have e0 : s₁.heap = h0 := by rw [← hh, Bd.state]; rfl
  have N0 := Fr.nil n0
  have pre0 : ∀ t, Steps p.tables e below (s₁.setTop (mkF m 0 #[.val (.int p0)] [])) t → Steps p.tables e below (s₁.setTop (entryFrame m #[(.int p0)] 1)) t := fun t k => castTop (ef1 m p0) k
  have S1 : ∀ t, Steps p.tables e below (s₁.setTop (mkF m 1 #[.val (.int p0)] [(.int p0)])) t → Steps p.tables e below (s₁.setTop (entryFrame m #[(.int p0)] 1)) t := by
    intro t kt
    refine pre0 _ ?_
    show Steps p.tables e below (s₁.setTop (mkF m 0 #[.val (.int p0)] [])) _
    refine XS.iloadN X0.here hx rfl (hb hby d1_0) rfl ?_
    exact kt
  by_cases hc1_2 : p0 = 0
  case pos =>
    obtain ⟨T3, X3, e3, st3⟩ := getS2 X0 hx hZ hown (host := "") (Or.inl (hw _ (List.mem_of_getElem? (i := 5) rfl))) Via.refl e0 Sv_WARRIOR (g := (mkF m 4 #[.val (.int p0)] [])) rfl (hb hby d1_4)
    obtain ⟨fs, hrT, hrunT, hendT, hWT, hsameT⟩ := X3.leave (v := some (.ref v_WARRIOR)) (fun h => by rw [Bd.returns] at h; cases h)
    refine ⟨_, _, S1 _ ?_, hrunT, hendT, _, _, rfl, ?_, ⟨_, rfl⟩, hWT, hsameT.mono (by decide) (by decide)⟩
    · show Steps p.tables e below (s₁.setTop (mkF m 1 #[.val (.int p0)] [(.int p0)])) _
      refine XS.ifNo X0.here hx rfl (hb hby d1_1) rfl (XT.i0_ne_f hc1_2) ?_
      show Steps p.tables e below (s₁.setTop (mkF m 4 #[.val (.int p0)] [])) _
      refine st3 _ ?_
      show Steps p.tables e below (T3.setTop (mkF m 7 #[.val (.int p0)] [(.ref v_WARRIOR)])) _
      exact retOut X3 hx Bd.returns rfl (by right; right; right; right; exact ⟨rfl, rfl, rfl⟩) (hb hby d1_7) hrT
    · show Q1 Z p0 v_WARRIOR v_HUNTER v_BLACKSMITH v_EXPLORER v_MINER h0 n0 _ T3.heap _
      rw [e3]
      exact ⟨v_WARRIOR, rfl, N0, rfl, Ev_WARRIOR, (by rw [hc1_2]; exact Fv_WARRIOR_ordinal), (fun q => absurd (hc1_2.symm.trans q) (by decide)), (fun q => absurd (hc1_2.symm.trans q) (by decide))⟩
  case neg =>
    have S4 : ∀ t, Steps p.tables e below (s₁.setTop (mkF m 10 #[.val (.int p0)] [(.int (1 : Int32)), (.int p0)])) t → Steps p.tables e below (s₁.setTop (entryFrame m #[(.int p0)] 1)) t := by
      intro t kt
      refine S1 _ ?_
      show Steps p.tables e below (s₁.setTop (mkF m 1 #[.val (.int p0)] [(.int p0)])) _
      refine XS.ifYes X0.here hx rfl (pc0 := 1) (pc' := 8) rfl (hb hby d1_1) rfl (XT.i0_ne_t hc1_2) (by decide) (by decide) ?_
      show Steps p.tables e below (s₁.setTop (mkF m 8 #[.val (.int p0)] [])) _
      refine XS.iloadN X0.here hx rfl (hb hby d1_8) rfl ?_
      show Steps p.tables e below (s₁.setTop (mkF m 9 #[.val (.int p0)] [(.int p0)])) _
      refine XS.iconst X0.here hx rfl (hb hby d1_9) ?_
      exact kt
    by_cases hc10_5 : p0 = (1 : Int32)
    case pos =>
      obtain ⟨T6, X6, e6, st6⟩ := getS2 X0 hx hZ hown (host := "") (Or.inl (hw _ (List.mem_of_getElem? (i := 32) rfl))) Via.refl e0 Sv_HUNTER (g := (mkF m 13 #[.val (.int p0)] [])) rfl (hb hby d1_13)
      obtain ⟨fs, hrT, hrunT, hendT, hWT, hsameT⟩ := X6.leave (v := some (.ref v_HUNTER)) (fun h => by rw [Bd.returns] at h; cases h)
      refine ⟨_, _, S4 _ ?_, hrunT, hendT, _, _, rfl, ?_, ⟨_, rfl⟩, hWT, hsameT.mono (by decide) (by decide)⟩
      · show Steps p.tables e below (s₁.setTop (mkF m 10 #[.val (.int p0)] [(.int (1 : Int32)), (.int p0)])) _
        refine XS.icmpNo X0.here hx rfl (hb hby d1_10) rfl (XT.ii_ne_f hc10_5) ?_
        show Steps p.tables e below (s₁.setTop (mkF m 13 #[.val (.int p0)] [])) _
        refine st6 _ ?_
        show Steps p.tables e below (T6.setTop (mkF m 16 #[.val (.int p0)] [(.ref v_HUNTER)])) _
        exact retOut X6 hx Bd.returns rfl (by right; right; right; right; exact ⟨rfl, rfl, rfl⟩) (hb hby d1_16) hrT
      · show Q1 Z p0 v_WARRIOR v_HUNTER v_BLACKSMITH v_EXPLORER v_MINER h0 n0 _ T6.heap _
        rw [e6]
        exact ⟨v_HUNTER, rfl, N0, rfl, Ev_HUNTER, (by rw [hc10_5]; exact Fv_HUNTER_ordinal), (fun _ => rfl), (fun q => absurd (hc10_5.symm.trans q) (by decide))⟩
    case neg =>
      have S7 : ∀ t, Steps p.tables e below (s₁.setTop (mkF m 19 #[.val (.int p0)] [(.int (2 : Int32)), (.int p0)])) t → Steps p.tables e below (s₁.setTop (entryFrame m #[(.int p0)] 1)) t := by
        intro t kt
        refine S4 _ ?_
        show Steps p.tables e below (s₁.setTop (mkF m 10 #[.val (.int p0)] [(.int (1 : Int32)), (.int p0)])) _
        refine XS.icmpYes X0.here hx rfl (pc0 := 10) (pc' := 17) rfl (hb hby d1_10) rfl (XT.ii_ne_t hc10_5) (by decide) (by decide) ?_
        show Steps p.tables e below (s₁.setTop (mkF m 17 #[.val (.int p0)] [])) _
        refine XS.iloadN X0.here hx rfl (hb hby d1_17) rfl ?_
        show Steps p.tables e below (s₁.setTop (mkF m 18 #[.val (.int p0)] [(.int p0)])) _
        refine XS.iconst X0.here hx rfl (hb hby d1_18) ?_
        exact kt
      by_cases hc19_8 : p0 = (2 : Int32)
      case pos =>
        obtain ⟨T9, X9, e9, st9⟩ := getS2 X0 hx hZ hown (host := "") (Or.inl (hw _ (List.mem_of_getElem? (i := 45) rfl))) Via.refl e0 Sv_MINER (g := (mkF m 22 #[.val (.int p0)] [])) rfl (hb hby d1_22)
        obtain ⟨fs, hrT, hrunT, hendT, hWT, hsameT⟩ := X9.leave (v := some (.ref v_MINER)) (fun h => by rw [Bd.returns] at h; cases h)
        refine ⟨_, _, S7 _ ?_, hrunT, hendT, _, _, rfl, ?_, ⟨_, rfl⟩, hWT, hsameT.mono (by decide) (by decide)⟩
        · show Steps p.tables e below (s₁.setTop (mkF m 19 #[.val (.int p0)] [(.int (2 : Int32)), (.int p0)])) _
          refine XS.icmpNo X0.here hx rfl (hb hby d1_19) rfl (XT.ii_ne_f hc19_8) ?_
          show Steps p.tables e below (s₁.setTop (mkF m 22 #[.val (.int p0)] [])) _
          refine st9 _ ?_
          show Steps p.tables e below (T9.setTop (mkF m 25 #[.val (.int p0)] [(.ref v_MINER)])) _
          exact retOut X9 hx Bd.returns rfl (by right; right; right; right; exact ⟨rfl, rfl, rfl⟩) (hb hby d1_25) hrT
        · show Q1 Z p0 v_WARRIOR v_HUNTER v_BLACKSMITH v_EXPLORER v_MINER h0 n0 _ T9.heap _
          rw [e9]
          exact ⟨v_MINER, rfl, N0, rfl, Ev_MINER, (by rw [hc19_8]; exact Fv_MINER_ordinal), (fun q => absurd (hc19_8.symm.trans q) (by decide)), (fun q => absurd (hc19_8.symm.trans q) (by decide))⟩
      case neg =>
        have S10 : ∀ t, Steps p.tables e below (s₁.setTop (mkF m 28 #[.val (.int p0)] [(.int (3 : Int32)), (.int p0)])) t → Steps p.tables e below (s₁.setTop (entryFrame m #[(.int p0)] 1)) t := by
          intro t kt
          refine S7 _ ?_
          show Steps p.tables e below (s₁.setTop (mkF m 19 #[.val (.int p0)] [(.int (2 : Int32)), (.int p0)])) _
          refine XS.icmpYes X0.here hx rfl (pc0 := 19) (pc' := 26) rfl (hb hby d1_19) rfl (XT.ii_ne_t hc19_8) (by decide) (by decide) ?_
          show Steps p.tables e below (s₁.setTop (mkF m 26 #[.val (.int p0)] [])) _
          refine XS.iloadN X0.here hx rfl (hb hby d1_26) rfl ?_
          show Steps p.tables e below (s₁.setTop (mkF m 27 #[.val (.int p0)] [(.int p0)])) _
          refine XS.iconst X0.here hx rfl (hb hby d1_27) ?_
          exact kt
        by_cases hc28_11 : p0 = (3 : Int32)
        case pos =>
          obtain ⟨T12, X12, e12, st12⟩ := getS2 X0 hx hZ hown (host := "") (Or.inl (hw _ (List.mem_of_getElem? (i := 39) rfl))) Via.refl e0 Sv_BLACKSMITH (g := (mkF m 31 #[.val (.int p0)] [])) rfl (hb hby d1_31)
          obtain ⟨fs, hrT, hrunT, hendT, hWT, hsameT⟩ := X12.leave (v := some (.ref v_BLACKSMITH)) (fun h => by rw [Bd.returns] at h; cases h)
          refine ⟨_, _, S10 _ ?_, hrunT, hendT, _, _, rfl, ?_, ⟨_, rfl⟩, hWT, hsameT.mono (by decide) (by decide)⟩
          · show Steps p.tables e below (s₁.setTop (mkF m 28 #[.val (.int p0)] [(.int (3 : Int32)), (.int p0)])) _
            refine XS.icmpNo X0.here hx rfl (hb hby d1_28) rfl (XT.ii_ne_f hc28_11) ?_
            show Steps p.tables e below (s₁.setTop (mkF m 31 #[.val (.int p0)] [])) _
            refine st12 _ ?_
            show Steps p.tables e below (T12.setTop (mkF m 34 #[.val (.int p0)] [(.ref v_BLACKSMITH)])) _
            exact retOut X12 hx Bd.returns rfl (by right; right; right; right; exact ⟨rfl, rfl, rfl⟩) (hb hby d1_34) hrT
          · show Q1 Z p0 v_WARRIOR v_HUNTER v_BLACKSMITH v_EXPLORER v_MINER h0 n0 _ T12.heap _
            rw [e12]
            exact ⟨v_BLACKSMITH, rfl, N0, rfl, Ev_BLACKSMITH, (by rw [hc28_11]; exact Fv_BLACKSMITH_ordinal), (fun q => absurd (hc28_11.symm.trans q) (by decide)), (fun _ => rfl)⟩
        case neg =>
          obtain ⟨T13, X13, e13, st13⟩ := getS2 X0 hx hZ hown (host := "") (Or.inl (hw _ (List.mem_of_getElem? (i := 37) rfl))) Via.refl e0 Sv_EXPLORER (g := (mkF m 35 #[.val (.int p0)] [])) rfl (hb hby d1_35)
          obtain ⟨fs, hrT, hrunT, hendT, hWT, hsameT⟩ := X13.leave (v := some (.ref v_EXPLORER)) (fun h => by rw [Bd.returns] at h; cases h)
          refine ⟨_, _, S10 _ ?_, hrunT, hendT, _, _, rfl, ?_, ⟨_, rfl⟩, hWT, hsameT.mono (by decide) (by decide)⟩
          · show Steps p.tables e below (s₁.setTop (mkF m 28 #[.val (.int p0)] [(.int (3 : Int32)), (.int p0)])) _
            refine XS.icmpYes X0.here hx rfl (pc0 := 28) (pc' := 35) rfl (hb hby d1_28) rfl (XT.ii_ne_t hc28_11) (by decide) (by decide) ?_
            show Steps p.tables e below (s₁.setTop (mkF m 35 #[.val (.int p0)] [])) _
            refine st13 _ ?_
            show Steps p.tables e below (T13.setTop (mkF m 38 #[.val (.int p0)] [(.ref v_EXPLORER)])) _
            exact retOut X13 hx Bd.returns rfl (by right; right; right; right; exact ⟨rfl, rfl, rfl⟩) (hb hby d1_38) hrT
          · show Q1 Z p0 v_WARRIOR v_HUNTER v_BLACKSMITH v_EXPLORER v_MINER h0 n0 _ T13.heap _
            rw [e13]
            exact ⟨v_EXPLORER, rfl, N0, rfl, Ev_EXPLORER, (by rw [(own_last p0 hr hc1_2 hc10_5 hc19_8 hc28_11)]; exact Fv_EXPLORER_ordinal), (fun q => absurd ((own_last p0 hr hc1_2 hc10_5 hc19_8 hc28_11).symm.trans q) (by decide)), (fun q => absurd ((own_last p0 hr hc1_2 hc10_5 hc19_8 hc28_11).symm.trans q) (by decide))⟩
theorem d2_0 : decode prog_16_method_7_code 0 = .ok (.aload_n 0, 1) := by decide +kernel
theorem d2_1 : decode prog_16_method_7_code 1 = .ok (.getstatic 7, 3) := by decide +kernel
theorem d2_4 : decode prog_16_method_7_code 4 = .ok (.if_acmp .eq 14, 3) := by decide +kernel
theorem d2_18 : decode prog_16_method_7_code 18 = .ok (.iconst 0, 1) := by decide +kernel
theorem d2_19 : decode prog_16_method_7_code 19 = .ok (.ireturn, 1) := by decide +kernel
theorem d2_7 : decode prog_16_method_7_code 7 = .ok (.aload_n 0, 1) := by decide +kernel
theorem d2_8 : decode prog_16_method_7_code 8 = .ok (.getstatic 13, 3) := by decide +kernel
theorem d2_11 : decode prog_16_method_7_code 11 = .ok (.if_acmp .eq 7, 3) := by decide +kernel
theorem d2_14 : decode prog_16_method_7_code 14 = .ok (.iconst 1, 1) := by decide +kernel
theorem d2_15 : decode prog_16_method_7_code 15 = .ok (.goto 4, 3) := by decide +kernel
theorem pn_DwarfClass : plainName "com/example/runehall/runehall/tavern/DwarfClass" = true := by first | (simp [plainName, overriddenIn]; done) | decide +kernel
def f_ccp (r0 : Addr) (v_HUNTER : Addr) (v_BLACKSMITH : Addr) : Int32 := (if r0 = v_HUNTER then (0 : Int32) else (if r0 = v_BLACKSMITH then (0 : Int32) else (1 : Int32)))
theorem ef2 (m : MethodId) (x0 : Addr) : entryFrame m #[(.ref x0)] 1 = mkF m 0 #[.val (.ref x0)] [] := by first | (simp [entryFrame, mkF, argsToLocals, Value.category]; done) | rfl
def Q2 (Z : State) (r0 : Addr) (v_HUNTER : Addr) (v_BLACKSMITH : Addr) (h0 : Heap) (n0 : Nat) (v : Option Value) (h : Heap) (L : List Loc) : Prop := v = some (.int (f_ccp r0 v_HUNTER v_BLACKSMITH)) ∧ Fr n0 L ∧ h = h0
set_option maxRecDepth 65536 in
set_option maxHeartbeats 40000000 in
theorem rm2 (l : Launch) (Z : State) (a0 : Array Value) (hw : ∀ d ∈ tables_1, d.before a0 Z = true) (ws : List Jvm.Cond) (r0 : Addr) (v_HUNTER : Addr) (v_BLACKSMITH : Addr) (h0 : Heap) (n0 : Nat) (Z0 : n0 ≤ h0.size) (Sv_HUNTER : Sta Z h0 "com/example/runehall/runehall/tavern/DwarfClass" "HUNTER" "Lcom/example/runehall/runehall/tavern/DwarfClass;" (.ref v_HUNTER)) (Sv_BLACKSMITH : Sta Z h0 "com/example/runehall/runehall/tavern/DwarfClass" "BLACKSMITH" "Lcom/example/runehall/runehall/tavern/DwarfClass;" (.ref v_BLACKSMITH)) :
    MetFree l (⟨"com/example/runehall/runehall/tavern/DwarfClass", "cardsCarryPoints", "()Z"⟩ : MethodName) (head1 (Jvm.Cond.code (⟨"com/example/runehall/runehall/tavern/DwarfClass", "cardsCarryPoints", "()Z"⟩ : MethodName) prog_16_method_7_code 1 (some .boolean) :: ws) ({ frames := 0, cells := 0, slots := 0, locals := 0 } : Room)) (fun a U => a = #[(.ref r0)] ∧ Z.Warmed39 U.vm ∧ U.heap = h0) (fun _ _ _ _ _ => True) (fun _ U o U' => ∃ v L, o = .returned v ∧ Q2 Z r0 v_HUNTER v_BLACKSMITH h0 n0 v U'.heap L ∧ FrameEnd U o U' L ({ frames := 0, cells := 0, slots := 0, locals := 0 } : Room).cells ({ frames := 0, cells := 0, slots := 0, locals := 0 } : Room).slots) := by
  refine MetFree.of_bodySF (plainFor_of_name pn_DwarfClass) hisR ?_
  intro p e s m args below meth c s₁ Bd hml0 hP hK
  obtain ⟨rfl, hZ, hh⟩ := hP
  have hx := Bd.exec
  have hby := Bd.bytes
  have hml : c.maxLocals = 1 := hml0
  have hown : s.vm.findClass "com/example/runehall/runehall/tavern/DwarfClass" = some m.cls := findClass_of_methodNamed Bd.named
  have hnm := (name_of_methodNamed Bd.named Bd.method).1
  have X0 : Stand p l e ({ frames := 0, cells := 0, slots := 0, locals := 0 } : Room) s m #[(.ref r0)] below meth c s₁ [] 0 0 := Stand.of_body Bd
  have e0 : s₁.heap = h0 := by rw [← hh, Bd.state]; rfl
  have N0 := Fr.nil n0
  have pre0 : ∀ t, Steps p.tables e below (s₁.setTop (mkF m 0 #[.val (.ref r0)] [])) t → Steps p.tables e below (s₁.setTop (entryFrame m #[(.ref r0)] 1)) t := fun t k => castTop (ef2 m r0) k
  obtain ⟨T14, X14, e14, st14⟩ := getS2 X0 hx hZ hown (host := "") (Or.inl (hw _ (List.mem_of_getElem? (i := 14) rfl))) Via.refl e0 Sv_HUNTER (g := (mkF m 1 #[.val (.ref r0)] [(.ref r0)])) rfl (hb hby d2_1)
  have S15 : ∀ t, Steps p.tables e below (T14.setTop (mkF m 4 #[.val (.ref r0)] [(.ref v_HUNTER), (.ref r0)])) t → Steps p.tables e below (s₁.setTop (entryFrame m #[(.ref r0)] 1)) t := by
    intro t kt
    refine pre0 _ ?_
    show Steps p.tables e below (s₁.setTop (mkF m 0 #[.val (.ref r0)] [])) _
    refine XS.aloadN X0.here hx rfl (hb hby d2_0) rfl rfl ?_
    show Steps p.tables e below (s₁.setTop (mkF m 1 #[.val (.ref r0)] [(.ref r0)])) _
    refine st14 _ ?_
    exact kt
  by_cases hc4_16 : r0 = v_HUNTER
  case pos =>
    obtain ⟨fs, hrT, hrunT, hendT, hWT, hsameT⟩ := X14.leave (v := some (.int (0 : Int32))) (fun h => by rw [Bd.returns] at h; cases h)
    refine ⟨_, _, S15 _ ?_, hrunT, hendT, _, _, rfl, ?_, ⟨_, rfl⟩, hWT, hsameT.mono (by decide) (by decide)⟩
    · show Steps p.tables e below (T14.setTop (mkF m 4 #[.val (.ref r0)] [(.ref v_HUNTER), (.ref r0)])) _
      refine XT.acmpYes X14.here hx rfl (pc0 := 4) (pc' := 18) rfl (hb hby d2_4) rfl rfl rfl (XT.aa_eq_t (congrArg Value.ref hc4_16)) (by decide) (by decide) ?_
      show Steps p.tables e below (T14.setTop (mkF m 18 #[.val (.ref r0)] [])) _
      refine XS.iconst X14.here hx rfl (hb hby d2_18) ?_
      show Steps p.tables e below (T14.setTop (mkF m 19 #[.val (.ref r0)] [(.int (0 : Int32))])) _
      exact retN X14 hx (t := .boolean) Bd.returns (by simp) (hb hby d2_19) hrT
    · show Q2 Z r0 v_HUNTER v_BLACKSMITH h0 n0 _ T14.heap _
      rw [e14]
      have hv : f_ccp r0 v_HUNTER v_BLACKSMITH = (0 : Int32) := by unfold f_ccp; rw [if_pos hc4_16]
      exact ⟨(congrArg (fun z => some (Value.int z)) hv.symm), N0, rfl⟩
  case neg =>
    obtain ⟨T17, X17, e17, st17⟩ := getS2 X14 hx hZ hown (host := "") (Or.inl (hw _ (List.mem_of_getElem? (i := 16) rfl))) Via.refl e14 Sv_BLACKSMITH (g := (mkF m 8 #[.val (.ref r0)] [(.ref r0)])) rfl (hb hby d2_8)
    have S18 : ∀ t, Steps p.tables e below (T17.setTop (mkF m 11 #[.val (.ref r0)] [(.ref v_BLACKSMITH), (.ref r0)])) t → Steps p.tables e below (s₁.setTop (entryFrame m #[(.ref r0)] 1)) t := by
      intro t kt
      refine S15 _ ?_
      show Steps p.tables e below (T14.setTop (mkF m 4 #[.val (.ref r0)] [(.ref v_HUNTER), (.ref r0)])) _
      refine XT.acmpNo X14.here hx rfl (hb hby d2_4) rfl rfl rfl (XT.aa_eq_f (fun q => hc4_16 (Value.ref.inj q))) ?_
      show Steps p.tables e below (T14.setTop (mkF m 7 #[.val (.ref r0)] [])) _
      refine XS.aloadN X14.here hx rfl (hb hby d2_7) rfl rfl ?_
      show Steps p.tables e below (T14.setTop (mkF m 8 #[.val (.ref r0)] [(.ref r0)])) _
      refine st17 _ ?_
      exact kt
    by_cases hc11_19 : r0 = v_BLACKSMITH
    case pos =>
      obtain ⟨fs, hrT, hrunT, hendT, hWT, hsameT⟩ := X17.leave (v := some (.int (0 : Int32))) (fun h => by rw [Bd.returns] at h; cases h)
      refine ⟨_, _, S18 _ ?_, hrunT, hendT, _, _, rfl, ?_, ⟨_, rfl⟩, hWT, hsameT.mono (by decide) (by decide)⟩
      · show Steps p.tables e below (T17.setTop (mkF m 11 #[.val (.ref r0)] [(.ref v_BLACKSMITH), (.ref r0)])) _
        refine XT.acmpYes X17.here hx rfl (pc0 := 11) (pc' := 18) rfl (hb hby d2_11) rfl rfl rfl (XT.aa_eq_t (congrArg Value.ref hc11_19)) (by decide) (by decide) ?_
        show Steps p.tables e below (T17.setTop (mkF m 18 #[.val (.ref r0)] [])) _
        refine XS.iconst X17.here hx rfl (hb hby d2_18) ?_
        show Steps p.tables e below (T17.setTop (mkF m 19 #[.val (.ref r0)] [(.int (0 : Int32))])) _
        exact retN X17 hx (t := .boolean) Bd.returns (by simp) (hb hby d2_19) hrT
      · show Q2 Z r0 v_HUNTER v_BLACKSMITH h0 n0 _ T17.heap _
        rw [e17]
        have hv : f_ccp r0 v_HUNTER v_BLACKSMITH = (0 : Int32) := by unfold f_ccp; rw [if_neg hc4_16]; rw [if_pos hc11_19]
        exact ⟨(congrArg (fun z => some (Value.int z)) hv.symm), N0, rfl⟩
    case neg =>
      obtain ⟨fs, hrT, hrunT, hendT, hWT, hsameT⟩ := X17.leave (v := some (.int (1 : Int32))) (fun h => by rw [Bd.returns] at h; cases h)
      refine ⟨_, _, S18 _ ?_, hrunT, hendT, _, _, rfl, ?_, ⟨_, rfl⟩, hWT, hsameT.mono (by decide) (by decide)⟩
      · show Steps p.tables e below (T17.setTop (mkF m 11 #[.val (.ref r0)] [(.ref v_BLACKSMITH), (.ref r0)])) _
        refine XT.acmpNo X17.here hx rfl (hb hby d2_11) rfl rfl rfl (XT.aa_eq_f (fun q => hc11_19 (Value.ref.inj q))) ?_
        show Steps p.tables e below (T17.setTop (mkF m 14 #[.val (.ref r0)] [])) _
        refine XS.iconst X17.here hx rfl (hb hby d2_14) ?_
        show Steps p.tables e below (T17.setTop (mkF m 15 #[.val (.ref r0)] [(.int (1 : Int32))])) _
        refine XS.goto X17.here hx rfl (pc0 := 15) (pc' := 19) rfl (hb hby d2_15) (by decide) (by decide) ?_
        show Steps p.tables e below (T17.setTop (mkF m 19 #[.val (.ref r0)] [(.int (1 : Int32))])) _
        exact retN X17 hx (t := .boolean) Bd.returns (by simp) (hb hby d2_19) hrT
      · show Q2 Z r0 v_HUNTER v_BLACKSMITH h0 n0 _ T17.heap _
        rw [e17]
        have hv : f_ccp r0 v_HUNTER v_BLACKSMITH = (1 : Int32) := by unfold f_ccp; rw [if_neg hc4_16]; rw [if_neg hc11_19]
        exact ⟨(congrArg (fun z => some (Value.int z)) hv.symm), N0, rfl⟩
theorem d4_0 : decode jdk_37_method_2_code 0 = .ok (.aload_n 0, 1) := by decide +kernel
theorem d4_1 : decode jdk_37_method_2_code 1 = .ok (.getfield 7, 3) := by decide +kernel
theorem d4_4 : decode jdk_37_method_2_code 4 = .ok (.ireturn, 1) := by decide +kernel
theorem pn_Enum : plainName "java/lang/Enum" = true := by first | (simp [plainName, overriddenIn]; done) | decide +kernel
theorem ef4 (m : MethodId) (x0 : Addr) : entryFrame m #[(.ref x0)] 1 = mkF m 0 #[.val (.ref x0)] [] := by first | (simp [entryFrame, mkF, argsToLocals, Value.category]; done) | rfl
def Q4 (Z : State) (r0 : Addr) (u1 : Int32) (h0 : Heap) (n0 : Nat) (v : Option Value) (h : Heap) (L : List Loc) : Prop := v = some (.int u1) ∧ Fr n0 L ∧ h = h0
set_option maxRecDepth 65536 in
set_option maxHeartbeats 40000000 in
theorem rm4 (l : Launch) (Z : State) (a0 : Array Value) (hw : ∀ d ∈ tables_1, d.before a0 Z = true) (ws : List Jvm.Cond) (r0 : Addr) (u1 : Int32) (h0 : Heap) (n0 : Nat) (Z0 : n0 ≤ h0.size) (F1 : Fld Z h0 r0 "java/lang/Enum" "ordinal" "I" (.int u1)) :
    MetFree l (⟨"java/lang/Enum", "ordinal", "()I"⟩ : MethodName) (head1 (Jvm.Cond.code (⟨"java/lang/Enum", "ordinal", "()I"⟩ : MethodName) jdk_37_method_2_code 1 (some .int) :: ws) ({ frames := 0, cells := 0, slots := 0, locals := 0 } : Room)) (fun a U => a = #[(.ref r0)] ∧ Z.Warmed39 U.vm ∧ U.heap = h0) (fun _ _ _ _ _ => True) (fun _ U o U' => ∃ v L, o = .returned v ∧ Q4 Z r0 u1 h0 n0 v U'.heap L ∧ FrameEnd U o U' L ({ frames := 0, cells := 0, slots := 0, locals := 0 } : Room).cells ({ frames := 0, cells := 0, slots := 0, locals := 0 } : Room).slots) := by
  refine MetFree.of_bodySF (plainFor_of_name pn_Enum) hisR ?_
  intro p e s m args below meth c s₁ Bd hml0 hP hK
  obtain ⟨rfl, hZ, hh⟩ := hP
  have hx := Bd.exec
  have hby := Bd.bytes
  have hml : c.maxLocals = 1 := hml0
  have hown : s.vm.findClass "java/lang/Enum" = some m.cls := findClass_of_methodNamed Bd.named
  have hnm := (name_of_methodNamed Bd.named Bd.method).1
  have X0 : Stand p l e ({ frames := 0, cells := 0, slots := 0, locals := 0 } : Room) s m #[(.ref r0)] below meth c s₁ [] 0 0 := Stand.of_body Bd
  have e0 : s₁.heap = h0 := by rw [← hh, Bd.state]; rfl
  have N0 := Fr.nil n0
  have pre0 : ∀ t, Steps p.tables e below (s₁.setTop (mkF m 0 #[.val (.ref r0)] [])) t → Steps p.tables e below (s₁.setTop (entryFrame m #[(.ref r0)] 1)) t := fun t k => castTop (ef4 m r0) k
  obtain ⟨T20, X20, e20, st20⟩ := getF X0 hx hZ hown (host := "") (Or.inl (hw _ (List.mem_of_getElem? (i := 30) rfl))) Via.refl e0 F1 (g := (mkF m 1 #[.val (.ref r0)] [(.ref r0)])) rfl rfl (hb hby d4_1)
  obtain ⟨fs, hrT, hrunT, hendT, hWT, hsameT⟩ := X20.leave (v := some (.int u1)) (fun h => by rw [Bd.returns] at h; cases h)
  refine ⟨_, _, pre0 _ ?_, hrunT, hendT, _, _, rfl, ?_, ⟨_, rfl⟩, hWT, hsameT.mono (by decide) (by decide)⟩
  · show Steps p.tables e below (s₁.setTop (mkF m 0 #[.val (.ref r0)] [])) _
    refine XS.aloadN X0.here hx rfl (hb hby d4_0) rfl rfl ?_
    show Steps p.tables e below (s₁.setTop (mkF m 1 #[.val (.ref r0)] [(.ref r0)])) _
    refine st20 _ ?_
    show Steps p.tables e below (T20.setTop (mkF m 4 #[.val (.ref r0)] [(.int u1)])) _
    exact retI X20 hx Bd.returns (hb hby d4_4) hrT
  · show Q4 Z r0 u1 h0 n0 _ T20.heap _
    rw [e20]
    exact ⟨rfl, N0, rfl⟩
theorem d5_0 : decode jdk_29_method_28_code 0 = .ok (.iload_n 0, 1) := by decide +kernel
theorem d5_1 : decode jdk_29_method_28_code 1 = .ok (.i2l, 1) := by decide +kernel
theorem d5_2 : decode jdk_29_method_28_code 2 = .ok (.iload_n 1, 1) := by decide +kernel
theorem d5_3 : decode jdk_29_method_28_code 3 = .ok (.i2l, 1) := by decide +kernel
theorem d5_4 : decode jdk_29_method_28_code 4 = .ok (.lmul, 1) := by decide +kernel
theorem d5_5 : decode jdk_29_method_28_code 5 = .ok (.lstore_n 2, 1) := by decide +kernel
theorem d5_6 : decode jdk_29_method_28_code 6 = .ok (.lload_n 2, 1) := by decide +kernel
theorem d5_7 : decode jdk_29_method_28_code 7 = .ok (.l2i, 1) := by decide +kernel
theorem d5_8 : decode jdk_29_method_28_code 8 = .ok (.i2l, 1) := by decide +kernel
theorem d5_9 : decode jdk_29_method_28_code 9 = .ok (.lload_n 2, 1) := by decide +kernel
theorem d5_10 : decode jdk_29_method_28_code 10 = .ok (.lcmp, 1) := by decide +kernel
theorem d5_11 : decode jdk_29_method_28_code 11 = .ok (.ifCond .eq 13, 3) := by decide +kernel
theorem d5_24 : decode jdk_29_method_28_code 24 = .ok (.lload_n 2, 1) := by decide +kernel
theorem d5_25 : decode jdk_29_method_28_code 25 = .ok (.l2i, 1) := by decide +kernel
theorem d5_26 : decode jdk_29_method_28_code 26 = .ok (.ireturn, 1) := by decide +kernel
theorem ef5 (m : MethodId) (x0 : Int32) (x1 : Int32) : entryFrame m #[(.int x0), (.int x1)] 4 = mkF m 0 #[.val (.int x0), .val (.int x1), .unset, .unset] [] := by first | (simp [entryFrame, mkF, argsToLocals, Value.category]; done) | rfl
def Q5 (Z : State) (p0 : Int32) (p1 : Int32) (h0 : Heap) (n0 : Nat) (v : Option Value) (h : Heap) (L : List Loc) : Prop := v = some (.int (((p0.toInt64) * (p1.toInt64)).toInt32)) ∧ Fr n0 L ∧ h = h0
set_option maxRecDepth 65536 in
set_option maxHeartbeats 40000000 in
theorem rm5 (l : Launch) (Z : State) (a0 : Array Value) (hw : ∀ d ∈ tables_1, d.before a0 Z = true) (ws : List Jvm.Cond) (p0 : Int32) (p1 : Int32) (h0 : Heap) (n0 : Nat) (Z0 : n0 ≤ h0.size) (hm : (((p0.toInt64) * (p1.toInt64)).toInt32).toInt64 = ((p0.toInt64) * (p1.toInt64))) :
    MetFree l (⟨"java/lang/Math", "multiplyExact", "(II)I"⟩ : MethodName) (head1 (Jvm.Cond.code (⟨"java/lang/Math", "multiplyExact", "(II)I"⟩ : MethodName) jdk_29_method_28_code 4 (some .int) :: ws) ({ frames := 0, cells := 0, slots := 0, locals := 0 } : Room)) (fun a U => a = #[(.int p0), (.int p1)] ∧ Z.Warmed39 U.vm ∧ U.heap = h0) (fun _ _ _ _ _ => True) (fun _ U o U' => ∃ v L, o = .returned v ∧ Q5 Z p0 p1 h0 n0 v U'.heap L ∧ FrameEnd U o U' L ({ frames := 0, cells := 0, slots := 0, locals := 0 } : Room).cells ({ frames := 0, cells := 0, slots := 0, locals := 0 } : Room).slots) := by
  refine MetFree.of_bodySF (Jvm.Free.JP.mathPlain rfl (by decide +kernel)) hisR ?_
  intro p e s m args below meth c s₁ Bd hml0 hP hK
  obtain ⟨rfl, hZ, hh⟩ := hP
  have hx := Bd.exec
  have hby := Bd.bytes
  have hml : c.maxLocals = 4 := hml0
  have hown : s.vm.findClass "java/lang/Math" = some m.cls := findClass_of_methodNamed Bd.named
  have hnm := (name_of_methodNamed Bd.named Bd.method).1
  have X0 : Stand p l e ({ frames := 0, cells := 0, slots := 0, locals := 0 } : Room) s m #[(.int p0), (.int p1)] below meth c s₁ [] 0 0 := Stand.of_body Bd
  have e0 : s₁.heap = h0 := by rw [← hh, Bd.state]; rfl
  have N0 := Fr.nil n0
  have pre0 : ∀ t, Steps p.tables e below (s₁.setTop (mkF m 0 #[.val (.int p0), .val (.int p1), .unset, .unset] [])) t → Steps p.tables e below (s₁.setTop (entryFrame m #[(.int p0), (.int p1)] 4)) t := fun t k => castTop (ef5 m p0 p1) k
  obtain ⟨fs, hrT, hrunT, hendT, hWT, hsameT⟩ := X0.leave (v := some (.int (((p0.toInt64) * (p1.toInt64)).toInt32))) (fun h => by rw [Bd.returns] at h; cases h)
  refine ⟨_, _, pre0 _ ?_, hrunT, hendT, _, _, rfl, ?_, ⟨_, rfl⟩, hWT, hsameT.mono (by decide) (by decide)⟩
  · show Steps p.tables e below (s₁.setTop (mkF m 0 #[.val (.int p0), .val (.int p1), .unset, .unset] [])) _
    refine XS.iloadN X0.here hx rfl (hb hby d5_0) rfl ?_
    show Steps p.tables e below (s₁.setTop (mkF m 1 #[.val (.int p0), .val (.int p1), .unset, .unset] [(.int p0)])) _
    refine XS.i2l X0.here hx rfl (hb hby d5_1) rfl ?_
    show Steps p.tables e below (s₁.setTop (mkF m 2 #[.val (.int p0), .val (.int p1), .unset, .unset] [(.long (p0.toInt64))])) _
    refine XS.iloadN X0.here hx rfl (hb hby d5_2) rfl ?_
    show Steps p.tables e below (s₁.setTop (mkF m 3 #[.val (.int p0), .val (.int p1), .unset, .unset] [(.int p1), (.long (p0.toInt64))])) _
    refine XS.i2l X0.here hx rfl (hb hby d5_3) rfl ?_
    show Steps p.tables e below (s₁.setTop (mkF m 4 #[.val (.int p0), .val (.int p1), .unset, .unset] [(.long (p1.toInt64)), (.long (p0.toInt64))])) _
    refine XS.lmul X0.here hx rfl (hb hby d5_4) rfl ?_
    show Steps p.tables e below (s₁.setTop (mkF m 5 #[.val (.int p0), .val (.int p1), .unset, .unset] [(.long ((p0.toInt64) * (p1.toInt64)))])) _
    refine XS.lstoreN X0.here hx rfl (hb hby d5_5) rfl (l' := #[.val (.int p0), .val (.int p1), .val (.long ((p0.toInt64) * (p1.toInt64))), .second]) rfl ?_
    show Steps p.tables e below (s₁.setTop (mkF m 6 #[.val (.int p0), .val (.int p1), .val (.long ((p0.toInt64) * (p1.toInt64))), .second] [])) _
    refine XS.lloadN X0.here hx rfl (hb hby d5_6) rfl ?_
    show Steps p.tables e below (s₁.setTop (mkF m 7 #[.val (.int p0), .val (.int p1), .val (.long ((p0.toInt64) * (p1.toInt64))), .second] [(.long ((p0.toInt64) * (p1.toInt64)))])) _
    refine XS.l2i X0.here hx rfl (hb hby d5_7) rfl ?_
    show Steps p.tables e below (s₁.setTop (mkF m 8 #[.val (.int p0), .val (.int p1), .val (.long ((p0.toInt64) * (p1.toInt64))), .second] [(.int (((p0.toInt64) * (p1.toInt64)).toInt32))])) _
    refine XS.i2l X0.here hx rfl (hb hby d5_8) rfl ?_
    show Steps p.tables e below (s₁.setTop (mkF m 9 #[.val (.int p0), .val (.int p1), .val (.long ((p0.toInt64) * (p1.toInt64))), .second] [(.long ((((p0.toInt64) * (p1.toInt64)).toInt32).toInt64))])) _
    refine XS.lloadN X0.here hx rfl (hb hby d5_9) rfl ?_
    show Steps p.tables e below (s₁.setTop (mkF m 10 #[.val (.int p0), .val (.int p1), .val (.long ((p0.toInt64) * (p1.toInt64))), .second] [(.long ((p0.toInt64) * (p1.toInt64))), (.long ((((p0.toInt64) * (p1.toInt64)).toInt32).toInt64))])) _
    refine XT.lcmp X0.here hx rfl (hb hby d5_10) rfl ?_
    show Steps p.tables e below (s₁.setTop (mkF m 11 #[.val (.int p0), .val (.int p1), .val (.long ((p0.toInt64) * (p1.toInt64))), .second] [(.int (XT.cmpL ((((p0.toInt64) * (p1.toInt64)).toInt32).toInt64) ((p0.toInt64) * (p1.toInt64))))])) _
    refine XS.ifYes X0.here hx rfl (pc0 := 11) (pc' := 24) rfl (hb hby d5_11) rfl (XT.ll_eq_t hm) (by decide) (by decide) ?_
    show Steps p.tables e below (s₁.setTop (mkF m 24 #[.val (.int p0), .val (.int p1), .val (.long ((p0.toInt64) * (p1.toInt64))), .second] [])) _
    refine XS.lloadN X0.here hx rfl (hb hby d5_24) rfl ?_
    show Steps p.tables e below (s₁.setTop (mkF m 25 #[.val (.int p0), .val (.int p1), .val (.long ((p0.toInt64) * (p1.toInt64))), .second] [(.long ((p0.toInt64) * (p1.toInt64)))])) _
    refine XS.l2i X0.here hx rfl (hb hby d5_25) rfl ?_
    show Steps p.tables e below (s₁.setTop (mkF m 26 #[.val (.int p0), .val (.int p1), .val (.long ((p0.toInt64) * (p1.toInt64))), .second] [(.int (((p0.toInt64) * (p1.toInt64)).toInt32))])) _
    exact retI X0 hx Bd.returns (hb hby d5_26) hrT
  · show Q5 Z p0 p1 h0 n0 _ s₁.heap _
    rw [e0]
    exact ⟨rfl, N0, rfl⟩
theorem d6_0 : decode jdk_29_method_43_code 0 = .ok (.lload_n 0, 1) := by decide +kernel
theorem d6_1 : decode jdk_29_method_43_code 1 = .ok (.l2i, 1) := by decide +kernel
theorem d6_2 : decode jdk_29_method_43_code 2 = .ok (.i2l, 1) := by decide +kernel
theorem d6_3 : decode jdk_29_method_43_code 3 = .ok (.lload_n 0, 1) := by decide +kernel
theorem d6_4 : decode jdk_29_method_43_code 4 = .ok (.lcmp, 1) := by decide +kernel
theorem d6_5 : decode jdk_29_method_43_code 5 = .ok (.ifCond .eq 13, 3) := by decide +kernel
theorem d6_18 : decode jdk_29_method_43_code 18 = .ok (.lload_n 0, 1) := by decide +kernel
theorem d6_19 : decode jdk_29_method_43_code 19 = .ok (.l2i, 1) := by decide +kernel
theorem d6_20 : decode jdk_29_method_43_code 20 = .ok (.ireturn, 1) := by decide +kernel
theorem ef6 (m : MethodId) (x0 : Int64) : entryFrame m #[(.long x0)] 2 = mkF m 0 #[.val (.long x0), .second] [] := by first | (simp [entryFrame, mkF, argsToLocals, Value.category]; done) | rfl
def Q6 (Z : State) (q0 : Int64) (h0 : Heap) (n0 : Nat) (v : Option Value) (h : Heap) (L : List Loc) : Prop := v = some (.int (q0.toInt32)) ∧ Fr n0 L ∧ h = h0
set_option maxRecDepth 65536 in
set_option maxHeartbeats 40000000 in
theorem rm6 (l : Launch) (Z : State) (a0 : Array Value) (hw : ∀ d ∈ tables_1, d.before a0 Z = true) (ws : List Jvm.Cond) (q0 : Int64) (h0 : Heap) (n0 : Nat) (Z0 : n0 ≤ h0.size) (hm : (q0.toInt32).toInt64 = q0) :
    MetFree l (⟨"java/lang/Math", "toIntExact", "(J)I"⟩ : MethodName) (head1 (Jvm.Cond.code (⟨"java/lang/Math", "toIntExact", "(J)I"⟩ : MethodName) jdk_29_method_43_code 2 (some .int) :: ws) ({ frames := 0, cells := 0, slots := 0, locals := 0 } : Room)) (fun a U => a = #[(.long q0)] ∧ Z.Warmed39 U.vm ∧ U.heap = h0) (fun _ _ _ _ _ => True) (fun _ U o U' => ∃ v L, o = .returned v ∧ Q6 Z q0 h0 n0 v U'.heap L ∧ FrameEnd U o U' L ({ frames := 0, cells := 0, slots := 0, locals := 0 } : Room).cells ({ frames := 0, cells := 0, slots := 0, locals := 0 } : Room).slots) := by
  refine MetFree.of_bodySF (Jvm.Free.JP.mathPlain rfl (by decide +kernel)) hisR ?_
  intro p e s m args below meth c s₁ Bd hml0 hP hK
  obtain ⟨rfl, hZ, hh⟩ := hP
  have hx := Bd.exec
  have hby := Bd.bytes
  have hml : c.maxLocals = 2 := hml0
  have hown : s.vm.findClass "java/lang/Math" = some m.cls := findClass_of_methodNamed Bd.named
  have hnm := (name_of_methodNamed Bd.named Bd.method).1
  have X0 : Stand p l e ({ frames := 0, cells := 0, slots := 0, locals := 0 } : Room) s m #[(.long q0)] below meth c s₁ [] 0 0 := Stand.of_body Bd
  have e0 : s₁.heap = h0 := by rw [← hh, Bd.state]; rfl
  have N0 := Fr.nil n0
  have pre0 : ∀ t, Steps p.tables e below (s₁.setTop (mkF m 0 #[.val (.long q0), .second] [])) t → Steps p.tables e below (s₁.setTop (entryFrame m #[(.long q0)] 2)) t := fun t k => castTop (ef6 m q0) k
  obtain ⟨fs, hrT, hrunT, hendT, hWT, hsameT⟩ := X0.leave (v := some (.int (q0.toInt32))) (fun h => by rw [Bd.returns] at h; cases h)
  refine ⟨_, _, pre0 _ ?_, hrunT, hendT, _, _, rfl, ?_, ⟨_, rfl⟩, hWT, hsameT.mono (by decide) (by decide)⟩
  · show Steps p.tables e below (s₁.setTop (mkF m 0 #[.val (.long q0), .second] [])) _
    refine XS.lloadN X0.here hx rfl (hb hby d6_0) rfl ?_
    show Steps p.tables e below (s₁.setTop (mkF m 1 #[.val (.long q0), .second] [(.long q0)])) _
    refine XS.l2i X0.here hx rfl (hb hby d6_1) rfl ?_
    show Steps p.tables e below (s₁.setTop (mkF m 2 #[.val (.long q0), .second] [(.int (q0.toInt32))])) _
    refine XS.i2l X0.here hx rfl (hb hby d6_2) rfl ?_
    show Steps p.tables e below (s₁.setTop (mkF m 3 #[.val (.long q0), .second] [(.long ((q0.toInt32).toInt64))])) _
    refine XS.lloadN X0.here hx rfl (hb hby d6_3) rfl ?_
    show Steps p.tables e below (s₁.setTop (mkF m 4 #[.val (.long q0), .second] [(.long q0), (.long ((q0.toInt32).toInt64))])) _
    refine XT.lcmp X0.here hx rfl (hb hby d6_4) rfl ?_
    show Steps p.tables e below (s₁.setTop (mkF m 5 #[.val (.long q0), .second] [(.int (XT.cmpL ((q0.toInt32).toInt64) q0))])) _
    refine XS.ifYes X0.here hx rfl (pc0 := 5) (pc' := 18) rfl (hb hby d6_5) rfl (XT.ll_eq_t hm) (by decide) (by decide) ?_
    show Steps p.tables e below (s₁.setTop (mkF m 18 #[.val (.long q0), .second] [])) _
    refine XS.lloadN X0.here hx rfl (hb hby d6_18) rfl ?_
    show Steps p.tables e below (s₁.setTop (mkF m 19 #[.val (.long q0), .second] [(.long q0)])) _
    refine XS.l2i X0.here hx rfl (hb hby d6_19) rfl ?_
    show Steps p.tables e below (s₁.setTop (mkF m 20 #[.val (.long q0), .second] [(.int (q0.toInt32))])) _
    exact retI X0 hx Bd.returns (hb hby d6_20) hrT
  · show Q6 Z q0 h0 n0 _ s₁.heap _
    rw [e0]
    exact ⟨rfl, N0, rfl⟩
theorem own_m {x y : Int32} (h1 : 0 ≤ x.toInt ∧ x.toInt ≤ 65536) (h2 : 0 ≤ y.toInt ∧ y.toInt ≤ 1024) : (((x.toInt64) * (y.toInt64)).toInt32).toInt64 = ((x.toInt64) * (y.toInt64)) := by
  refine XT.narrowOk ?_
  rw [XT.wideMul]
  have a1 : 0 ≤ x.toInt * y.toInt := Int.mul_nonneg h1.1 h2.1
  have a2 : x.toInt * y.toInt ≤ 65536 * 1024 := Int.mul_le_mul h1.2 h2.2 h2.1 (by decide)
  exact ⟨by omega, by omega⟩
theorem own_d {y : Int32} (h2 : 0 ≤ y.toInt ∧ y.toInt ≤ 1024) : ((((y.toInt64) * ((y.toInt64) + (5 : Int64))) / (2 : Int64)).toInt32).toInt64 = (((y.toInt64) * ((y.toInt64) + (5 : Int64))) / (2 : Int64)) := by
  refine XT.narrowOk ?_
  have e1 := Jvm.Kit.i64_of_i32 y
  have five : (5 : Int64).toInt = 5 := rfl
  have e2 : ((y.toInt64) + (5 : Int64)).toInt = y.toInt + 5 := by rw [Jvm.Kit.i64_add (by omega) (by omega), e1, five]
  have a1 : 0 ≤ y.toInt * (y.toInt + 5) := Int.mul_nonneg h2.1 (by omega)
  have a2 : y.toInt * (y.toInt + 5) ≤ 1024 * 1029 := Int.mul_le_mul h2.2 (by omega) (by omega) (by decide)
  have e3 : ((y.toInt64) * ((y.toInt64) + (5 : Int64))).toInt = y.toInt * (y.toInt + 5) := by rw [Jvm.Kit.i64_mul (by rw [e1, e2]; omega) (by rw [e1, e2]; omega), e1, e2]
  have e4 : (((y.toInt64) * ((y.toInt64) + (5 : Int64))) / (2 : Int64)).toInt = (y.toInt * (y.toInt + 5)).tdiv 2 := by rw [Jvm.Kit.i64_div (by rw [show (2 : Int64).toInt = 2 from rfl]; omega), e3]; rfl
  rw [e4, Int.tdiv_eq_ediv_of_nonneg a1]
  exact ⟨by omega, by omega⟩
theorem d3_0 : decode prog_16_method_8_code 0 = .ok (.iload_n 1, 1) := by decide +kernel
theorem d3_1 : decode prog_16_method_8_code 1 = .ok (.ifCond .lt 7, 3) := by decide +kernel
theorem d3_4 : decode prog_16_method_8_code 4 = .ok (.iload_n 2, 1) := by decide +kernel
theorem d3_5 : decode prog_16_method_8_code 5 = .ok (.ifCond .ge 22, 3) := by decide +kernel
theorem d3_27 : decode prog_16_method_8_code 27 = .ok (.aload_n 0, 1) := by decide +kernel
theorem pd___I : parseMethodDescriptor "()I" = some ⟨[], some .int⟩ := by decide +kernel
theorem d3_28 : decode prog_16_method_8_code 28 = .ok (.invokevirtual 75, 3) := by decide +kernel
theorem d3_31 : decode prog_16_method_8_code 31 = .ok (.tableswitch 33 0 4 #[43, 47, 55, 63, 43], 33) := by decide +kernel
theorem d3_74 : decode prog_16_method_8_code 74 = .ok (.iload_n 2, 1) := by decide +kernel
theorem d3_75 : decode prog_16_method_8_code 75 = .ok (.goto 35, 3) := by decide +kernel
theorem d3_110 : decode prog_16_method_8_code 110 = .ok (.istore_n 3, 1) := by decide +kernel
theorem d3_111 : decode prog_16_method_8_code 111 = .ok (.iload_n 3, 1) := by decide +kernel
theorem d3_112 : decode prog_16_method_8_code 112 = .ok (.ireturn, 1) := by decide +kernel
theorem d3_78 : decode prog_16_method_8_code 78 = .ok (.iload_n 1, 1) := by decide +kernel
theorem d3_79 : decode prog_16_method_8_code 79 = .ok (.iload_n 1, 1) := by decide +kernel
theorem pd__II_I : parseMethodDescriptor "(II)I" = some ⟨[.int, .int], some .int⟩ := by decide +kernel
theorem d3_80 : decode prog_16_method_8_code 80 = .ok (.invokestatic 84, 3) := by decide +kernel
theorem d3_83 : decode prog_16_method_8_code 83 = .ok (.goto 27, 3) := by decide +kernel
theorem d3_86 : decode prog_16_method_8_code 86 = .ok (.iload_n 2, 1) := by decide +kernel
theorem d3_87 : decode prog_16_method_8_code 87 = .ok (.iload_n 1, 1) := by decide +kernel
theorem d3_88 : decode prog_16_method_8_code 88 = .ok (.invokestatic 84, 3) := by decide +kernel
theorem d3_91 : decode prog_16_method_8_code 91 = .ok (.goto 19, 3) := by decide +kernel
theorem d3_94 : decode prog_16_method_8_code 94 = .ok (.iload_n 1, 1) := by decide +kernel
theorem d3_95 : decode prog_16_method_8_code 95 = .ok (.i2l, 1) := by decide +kernel
theorem d3_96 : decode prog_16_method_8_code 96 = .ok (.iload_n 1, 1) := by decide +kernel
theorem d3_97 : decode prog_16_method_8_code 97 = .ok (.i2l, 1) := by decide +kernel
theorem d3_98 : decode prog_16_method_8_code 98 = .ok (.ldc2_w 90, 3) := by decide +kernel
theorem d3_101 : decode prog_16_method_8_code 101 = .ok (.ladd, 1) := by decide +kernel
theorem d3_102 : decode prog_16_method_8_code 102 = .ok (.lmul, 1) := by decide +kernel
theorem d3_103 : decode prog_16_method_8_code 103 = .ok (.ldc2_w 92, 3) := by decide +kernel
theorem d3_106 : decode prog_16_method_8_code 106 = .ok (.ldiv, 1) := by decide +kernel
theorem pd__J_I : parseMethodDescriptor "(J)I" = some ⟨[.long], some .int⟩ := by decide +kernel
theorem d3_107 : decode prog_16_method_8_code 107 = .ok (.invokestatic 94, 3) := by decide +kernel
def f_val (p1 : Int32) (p2 : Int32) (u1 : Int32) : Int32 := (if u1 = (0 : Int32) then p2 else (if u1 = (1 : Int32) then (((p1.toInt64) * (p1.toInt64)).toInt32) else (if u1 = (2 : Int32) then (((p2.toInt64) * (p1.toInt64)).toInt32) else (if u1 = (3 : Int32) then ((((p1.toInt64) * ((p1.toInt64) + (5 : Int64))) / (2 : Int64)).toInt32) else p2))))
theorem ef3 (m : MethodId) (x0 : Addr) (x1 : Int32) (x2 : Int32) : entryFrame m #[(.ref x0), (.int x1), (.int x2)] 4 = mkF m 0 #[.val (.ref x0), .val (.int x1), .val (.int x2), .unset] [] := by first | (simp [entryFrame, mkF, argsToLocals, Value.category]; done) | rfl
def Q3 (Z : State) (r0 : Addr) (p1 : Int32) (p2 : Int32) (u1 : Int32) (h0 : Heap) (n0 : Nat) (v : Option Value) (h : Heap) (L : List Loc) : Prop := v = some (.int (f_val p1 p2 u1)) ∧ Fr n0 L ∧ h = h0
set_option maxRecDepth 65536 in
set_option maxHeartbeats 40000000 in
theorem rm3 (l : Launch) (Z : State) (a0 : Array Value) (hw : ∀ d ∈ tables_1, d.before a0 Z = true) (ws : List Jvm.Cond) (r0 : Addr) (p1 : Int32) (p2 : Int32) (u1 : Int32) (h0 : Heap) (n0 : Nat) (Z0 : n0 ≤ h0.size) (hr : 0 ≤ u1.toInt ∧ u1.toInt < 5) (h1 : 0 ≤ p1.toInt ∧ p1.toInt ≤ 1024) (h2 : 0 ≤ p2.toInt ∧ p2.toInt ≤ 65536) (E1 : Exa Z h0 r0 "com/example/runehall/runehall/tavern/DwarfClass") (F1 : Fld Z h0 r0 "java/lang/Enum" "ordinal" "I" (.int u1)) :
    MetFree l (⟨"com/example/runehall/runehall/tavern/DwarfClass", "value", "(II)I"⟩ : MethodName) (head1 (Jvm.Cond.code (⟨"com/example/runehall/runehall/tavern/DwarfClass", "value", "(II)I"⟩ : MethodName) prog_16_method_8_code 4 (some .int) :: ws) ({ frames := 1, cells := 0, slots := 0, locals := 15 } : Room)) (fun a U => a = #[(.ref r0), (.int p1), (.int p2)] ∧ Z.Warmed39 U.vm ∧ U.heap = h0) (fun _ _ _ _ _ => True) (fun _ U o U' => ∃ v L, o = .returned v ∧ Q3 Z r0 p1 p2 u1 h0 n0 v U'.heap L ∧ FrameEnd U o U' L ({ frames := 1, cells := 0, slots := 0, locals := 15 } : Room).cells ({ frames := 1, cells := 0, slots := 0, locals := 15 } : Room).slots) := by
  refine MetFree.of_bodySF (plainFor_of_name pn_DwarfClass) hisR ?_
  intro p e s m args below meth c s₁ Bd hml0 hP hK
  obtain ⟨rfl, hZ, hh⟩ := hP
  have hx := Bd.exec
  have hby := Bd.bytes
  have hml : c.maxLocals = 4 := hml0
  have hown : s.vm.findClass "com/example/runehall/runehall/tavern/DwarfClass" = some m.cls := findClass_of_methodNamed Bd.named
  have hnm := (name_of_methodNamed Bd.named Bd.method).1
  have X0 : Stand p l e ({ frames := 1, cells := 0, slots := 0, locals := 15 } : Room) s m #[(.ref r0), (.int p1), (.int p2)] below meth c s₁ [] 0 0 := Stand.of_body Bd
  have e0 : s₁.heap = h0 := by rw [← hh, Bd.state]; rfl
  have N0 := Fr.nil n0
  have pre0 : ∀ t, Steps p.tables e below (s₁.setTop (mkF m 0 #[.val (.ref r0), .val (.int p1), .val (.int p2), .unset] [])) t → Steps p.tables e below (s₁.setTop (entryFrame m #[(.ref r0), (.int p1), (.int p2)] 4)) t := fun t k => castTop (ef3 m r0 p1 p2) k
  obtain ⟨cq21, kq21, q21a, q21b, q21c⟩ := isOf hZ e0 E1
  obtain ⟨_, _, ⟨T21, L21, k21, n21⟩, -, X21, ⟨Lc21, hQ21, l21, y21, z21⟩, st21⟩ := X0.virtualBackUp hx (x := (⟨"com/example/runehall/runehall/tavern/DwarfClass", "ordinal", "()I"⟩ : MethodName)) (y := (⟨"java/lang/Enum", "ordinal", "()I"⟩ : MethodName)) hown (mvT hZ (hw _ (List.mem_of_getElem? (i := 23) rfl))) (mvT hZ (hw _ (List.mem_of_getElem? (i := 24) rfl))) (mvT hZ (hw _ (List.mem_of_getElem? (i := 25) rfl))) (by decide) (mvT hZ (hw _ (List.mem_of_getElem? (i := 27) rfl))) (mvT hZ (hw _ (List.mem_of_getElem? (i := 26) rfl))) (backOf (W := 0) (rm4 l Z a0 hw [] r0 u1 h0 n0 Z0 F1) hZ (hw _ (List.mem_of_getElem? (i := 29) rfl)) (hw _ (List.mem_of_getElem? (i := 28) rfl)) (by decide) (by decide)) q21a q21c (g := (mkF m 28 #[.val (.ref r0), .val (.int p1), .val (.int p2), .unset] [(.ref r0)])) rfl (by rw [hml]; rfl) (Steps.refl _) (argsL := []) (rest := []) (lenOf pd___I rfl) rfl (by show 2 * 0 + _ ≤ _; exact Nat.le_of_eq rfl) (hb hby d3_28) (fun _ _ => ⟨rfl, e0, (by decide : 0 + 0 ≤ _), (by decide : 0 + 0 ≤ _)⟩)
  dsimp only [Pt.U, Pt.locs, Pt.cells, Pt.slots] at X21 l21 y21 z21 st21 hQ21
  subst l21 y21 z21
  obtain ⟨rfl, Nq21, e21⟩ := hQ21
  have N21 := Fr.app N0 Nq21
  have S22 : ∀ t, Steps p.tables e below (T21.setTop (mkF m 31 #[.val (.ref r0), .val (.int p1), .val (.int p2), .unset] [(.int u1)])) t → Steps p.tables e below (s₁.setTop (entryFrame m #[(.ref r0), (.int p1), (.int p2)] 4)) t := by
    intro t kt
    refine pre0 _ ?_
    show Steps p.tables e below (s₁.setTop (mkF m 0 #[.val (.ref r0), .val (.int p1), .val (.int p2), .unset] [])) _
    refine XS.iloadN X0.here hx rfl (hb hby d3_0) rfl ?_
    show Steps p.tables e below (s₁.setTop (mkF m 1 #[.val (.ref r0), .val (.int p1), .val (.int p2), .unset] [(.int p1)])) _
    refine XS.ifNo X0.here hx rfl (hb hby d3_1) rfl (XT.i0_lt_f (by rw [XT.negI32]; omega)) ?_
    show Steps p.tables e below (s₁.setTop (mkF m 4 #[.val (.ref r0), .val (.int p1), .val (.int p2), .unset] [])) _
    refine XS.iloadN X0.here hx rfl (hb hby d3_4) rfl ?_
    show Steps p.tables e below (s₁.setTop (mkF m 5 #[.val (.ref r0), .val (.int p1), .val (.int p2), .unset] [(.int p2)])) _
    refine XS.ifYes X0.here hx rfl (pc0 := 5) (pc' := 27) rfl (hb hby d3_5) rfl (XT.i0_ge_t (by rw [XT.negI32]; omega)) (by decide) (by decide) ?_
    show Steps p.tables e below (s₁.setTop (mkF m 27 #[.val (.ref r0), .val (.int p1), .val (.int p2), .unset] [])) _
    refine XS.aloadN X0.here hx rfl (hb hby d3_27) rfl rfl ?_
    show Steps p.tables e below (s₁.setTop (mkF m 28 #[.val (.ref r0), .val (.int p1), .val (.int p2), .unset] [(.ref r0)])) _
    refine st21.trans ?_
    exact kt
  rcases own_or u1 hr with hq31_23 | hq31_24 | hq31_25 | hq31_26 | hq31_27
  · skip
    obtain ⟨fs, hrT, hrunT, hendT, hWT, hsameT⟩ := X21.leave (v := some (.int p2)) (fun h => by rw [Bd.returns] at h; cases h)
    refine ⟨_, _, S22 _ ?_, hrunT, hendT, _, _, rfl, ?_, ⟨_, rfl⟩, hWT, hsameT.mono (by decide) (by decide)⟩
    · show Steps p.tables e below (T21.setTop (mkF m 31 #[.val (.ref r0), .val (.int p1), .val (.int p2), .unset] [(.int u1)])) _
      refine XS.tswIn X21.here hx rfl (pc0 := 31) (pc' := 74) rfl (hb hby d3_31) rfl (by rw [hq31_23]; decide) (by rw [hq31_23]; rfl) (by decide) (by decide) ?_
      show Steps p.tables e below (T21.setTop (mkF m 74 #[.val (.ref r0), .val (.int p1), .val (.int p2), .unset] [])) _
      refine XS.iloadN X21.here hx rfl (hb hby d3_74) rfl ?_
      show Steps p.tables e below (T21.setTop (mkF m 75 #[.val (.ref r0), .val (.int p1), .val (.int p2), .unset] [(.int p2)])) _
      refine XS.goto X21.here hx rfl (pc0 := 75) (pc' := 110) rfl (hb hby d3_75) (by decide) (by decide) ?_
      show Steps p.tables e below (T21.setTop (mkF m 110 #[.val (.ref r0), .val (.int p1), .val (.int p2), .unset] [(.int p2)])) _
      refine XS.istoreN X21.here hx rfl (hb hby d3_110) rfl (l' := #[.val (.ref r0), .val (.int p1), .val (.int p2), .val (.int p2)]) rfl ?_
      show Steps p.tables e below (T21.setTop (mkF m 111 #[.val (.ref r0), .val (.int p1), .val (.int p2), .val (.int p2)] [])) _
      refine XS.iloadN X21.here hx rfl (hb hby d3_111) rfl ?_
      show Steps p.tables e below (T21.setTop (mkF m 112 #[.val (.ref r0), .val (.int p1), .val (.int p2), .val (.int p2)] [(.int p2)])) _
      exact retI X21 hx Bd.returns (hb hby d3_112) hrT
    · show Q3 Z r0 p1 p2 u1 h0 n0 _ T21.heap _
      rw [e21]
      have hv : f_val p1 p2 u1 = p2 := by unfold f_val; rw [if_pos hq31_23]
      exact ⟨(congrArg (fun z => some (Value.int z)) hv.symm), N21, rfl⟩
  · skip
    have hq31_24_0 : ¬ u1 = (0 : Int32) := by rw [hq31_24]; decide
    obtain ⟨_, _, ⟨T28, L28, k28, n28⟩, -, X28, ⟨Lc28, hQ28, l28, y28, z28⟩, st28⟩ := Jvm.LawKit.callS X21 hx (y := (⟨"java/lang/Math", "multiplyExact", "(II)I"⟩ : MethodName)) hown (mvT hZ (hw _ (List.mem_of_getElem? (i := 33) rfl))) (mvT hZ (hw _ (List.mem_of_getElem? (i := 34) rfl))) (mvT hZ (hw _ (List.mem_of_getElem? (i := 35) rfl))) (mvT hZ (hw _ (List.mem_of_getElem? (i := 36) rfl))) (by decide) (backOf (W := 0) (rm5 l Z a0 hw [] p1 p1 h0 n0 Z0 (own_m ⟨h1.1, by omega⟩ h1)) hZ (hw _ (List.mem_of_getElem? (i := 36) rfl)) (hw _ (List.mem_of_getElem? (i := 35) rfl)) (by decide) (by decide)) (g := (mkF m 80 #[.val (.ref r0), .val (.int p1), .val (.int p2), .unset] [(.int p1), (.int p1)])) rfl (by rw [hml]; rfl) (argsL := [(.int p1), (.int p1)]) (rest := []) (lenOf pd__II_I rfl) rfl (by show 2 * 0 + _ ≤ _; exact Nat.le_of_eq rfl) (hb hby d3_80) (fun _ _ => ⟨rfl, e21, (by decide : 0 + 0 ≤ _), (by decide : 0 + 0 ≤ _)⟩)
    dsimp only [Pt.U, Pt.locs, Pt.cells, Pt.slots] at X28 l28 y28 z28 st28 hQ28
    subst l28 y28 z28
    obtain ⟨rfl, Nq28, e28⟩ := hQ28
    have N28 := Fr.app N21 Nq28
    obtain ⟨fs, hrT, hrunT, hendT, hWT, hsameT⟩ := X28.leave (v := some (.int (((p1.toInt64) * (p1.toInt64)).toInt32))) (fun h => by rw [Bd.returns] at h; cases h)
    refine ⟨_, _, S22 _ ?_, hrunT, hendT, _, _, rfl, ?_, ⟨_, rfl⟩, hWT, hsameT.mono (by decide) (by decide)⟩
    · show Steps p.tables e below (T21.setTop (mkF m 31 #[.val (.ref r0), .val (.int p1), .val (.int p2), .unset] [(.int u1)])) _
      refine XS.tswIn X21.here hx rfl (pc0 := 31) (pc' := 78) rfl (hb hby d3_31) rfl (by rw [hq31_24]; decide) (by rw [hq31_24]; rfl) (by decide) (by decide) ?_
      show Steps p.tables e below (T21.setTop (mkF m 78 #[.val (.ref r0), .val (.int p1), .val (.int p2), .unset] [])) _
      refine XS.iloadN X21.here hx rfl (hb hby d3_78) rfl ?_
      show Steps p.tables e below (T21.setTop (mkF m 79 #[.val (.ref r0), .val (.int p1), .val (.int p2), .unset] [(.int p1)])) _
      refine XS.iloadN X21.here hx rfl (hb hby d3_79) rfl ?_
      show Steps p.tables e below (T21.setTop (mkF m 80 #[.val (.ref r0), .val (.int p1), .val (.int p2), .unset] [(.int p1), (.int p1)])) _
      refine st28 _ ?_
      show Steps p.tables e below (T28.setTop (mkF m 83 #[.val (.ref r0), .val (.int p1), .val (.int p2), .unset] [(.int (((p1.toInt64) * (p1.toInt64)).toInt32))])) _
      refine XS.goto X28.here hx rfl (pc0 := 83) (pc' := 110) rfl (hb hby d3_83) (by decide) (by decide) ?_
      show Steps p.tables e below (T28.setTop (mkF m 110 #[.val (.ref r0), .val (.int p1), .val (.int p2), .unset] [(.int (((p1.toInt64) * (p1.toInt64)).toInt32))])) _
      refine XS.istoreN X28.here hx rfl (hb hby d3_110) rfl (l' := #[.val (.ref r0), .val (.int p1), .val (.int p2), .val (.int (((p1.toInt64) * (p1.toInt64)).toInt32))]) rfl ?_
      show Steps p.tables e below (T28.setTop (mkF m 111 #[.val (.ref r0), .val (.int p1), .val (.int p2), .val (.int (((p1.toInt64) * (p1.toInt64)).toInt32))] [])) _
      refine XS.iloadN X28.here hx rfl (hb hby d3_111) rfl ?_
      show Steps p.tables e below (T28.setTop (mkF m 112 #[.val (.ref r0), .val (.int p1), .val (.int p2), .val (.int (((p1.toInt64) * (p1.toInt64)).toInt32))] [(.int (((p1.toInt64) * (p1.toInt64)).toInt32))])) _
      exact retI X28 hx Bd.returns (hb hby d3_112) hrT
    · show Q3 Z r0 p1 p2 u1 h0 n0 _ T28.heap _
      rw [e28]
      have hv : f_val p1 p2 u1 = (((p1.toInt64) * (p1.toInt64)).toInt32) := by unfold f_val; rw [if_neg hq31_24_0]; rw [if_pos hq31_24]
      exact ⟨(congrArg (fun z => some (Value.int z)) hv.symm), N28, rfl⟩
  · skip
    have hq31_25_0 : ¬ u1 = (0 : Int32) := by rw [hq31_25]; decide
    have hq31_25_1 : ¬ u1 = (1 : Int32) := by rw [hq31_25]; decide
    obtain ⟨_, _, ⟨T29, L29, k29, n29⟩, -, X29, ⟨Lc29, hQ29, l29, y29, z29⟩, st29⟩ := Jvm.LawKit.callS X21 hx (y := (⟨"java/lang/Math", "multiplyExact", "(II)I"⟩ : MethodName)) hown (mvT hZ (hw _ (List.mem_of_getElem? (i := 33) rfl))) (mvT hZ (hw _ (List.mem_of_getElem? (i := 34) rfl))) (mvT hZ (hw _ (List.mem_of_getElem? (i := 35) rfl))) (mvT hZ (hw _ (List.mem_of_getElem? (i := 36) rfl))) (by decide) (backOf (W := 0) (rm5 l Z a0 hw [] p2 p1 h0 n0 Z0 (own_m h2 h1)) hZ (hw _ (List.mem_of_getElem? (i := 36) rfl)) (hw _ (List.mem_of_getElem? (i := 35) rfl)) (by decide) (by decide)) (g := (mkF m 88 #[.val (.ref r0), .val (.int p1), .val (.int p2), .unset] [(.int p1), (.int p2)])) rfl (by rw [hml]; rfl) (argsL := [(.int p2), (.int p1)]) (rest := []) (lenOf pd__II_I rfl) rfl (by show 2 * 0 + _ ≤ _; exact Nat.le_of_eq rfl) (hb hby d3_88) (fun _ _ => ⟨rfl, e21, (by decide : 0 + 0 ≤ _), (by decide : 0 + 0 ≤ _)⟩)
    dsimp only [Pt.U, Pt.locs, Pt.cells, Pt.slots] at X29 l29 y29 z29 st29 hQ29
    subst l29 y29 z29
    obtain ⟨rfl, Nq29, e29⟩ := hQ29
    have N29 := Fr.app N21 Nq29
    obtain ⟨fs, hrT, hrunT, hendT, hWT, hsameT⟩ := X29.leave (v := some (.int (((p2.toInt64) * (p1.toInt64)).toInt32))) (fun h => by rw [Bd.returns] at h; cases h)
    refine ⟨_, _, S22 _ ?_, hrunT, hendT, _, _, rfl, ?_, ⟨_, rfl⟩, hWT, hsameT.mono (by decide) (by decide)⟩
    · show Steps p.tables e below (T21.setTop (mkF m 31 #[.val (.ref r0), .val (.int p1), .val (.int p2), .unset] [(.int u1)])) _
      refine XS.tswIn X21.here hx rfl (pc0 := 31) (pc' := 86) rfl (hb hby d3_31) rfl (by rw [hq31_25]; decide) (by rw [hq31_25]; rfl) (by decide) (by decide) ?_
      show Steps p.tables e below (T21.setTop (mkF m 86 #[.val (.ref r0), .val (.int p1), .val (.int p2), .unset] [])) _
      refine XS.iloadN X21.here hx rfl (hb hby d3_86) rfl ?_
      show Steps p.tables e below (T21.setTop (mkF m 87 #[.val (.ref r0), .val (.int p1), .val (.int p2), .unset] [(.int p2)])) _
      refine XS.iloadN X21.here hx rfl (hb hby d3_87) rfl ?_
      show Steps p.tables e below (T21.setTop (mkF m 88 #[.val (.ref r0), .val (.int p1), .val (.int p2), .unset] [(.int p1), (.int p2)])) _
      refine st29 _ ?_
      show Steps p.tables e below (T29.setTop (mkF m 91 #[.val (.ref r0), .val (.int p1), .val (.int p2), .unset] [(.int (((p2.toInt64) * (p1.toInt64)).toInt32))])) _
      refine XS.goto X29.here hx rfl (pc0 := 91) (pc' := 110) rfl (hb hby d3_91) (by decide) (by decide) ?_
      show Steps p.tables e below (T29.setTop (mkF m 110 #[.val (.ref r0), .val (.int p1), .val (.int p2), .unset] [(.int (((p2.toInt64) * (p1.toInt64)).toInt32))])) _
      refine XS.istoreN X29.here hx rfl (hb hby d3_110) rfl (l' := #[.val (.ref r0), .val (.int p1), .val (.int p2), .val (.int (((p2.toInt64) * (p1.toInt64)).toInt32))]) rfl ?_
      show Steps p.tables e below (T29.setTop (mkF m 111 #[.val (.ref r0), .val (.int p1), .val (.int p2), .val (.int (((p2.toInt64) * (p1.toInt64)).toInt32))] [])) _
      refine XS.iloadN X29.here hx rfl (hb hby d3_111) rfl ?_
      show Steps p.tables e below (T29.setTop (mkF m 112 #[.val (.ref r0), .val (.int p1), .val (.int p2), .val (.int (((p2.toInt64) * (p1.toInt64)).toInt32))] [(.int (((p2.toInt64) * (p1.toInt64)).toInt32))])) _
      exact retI X29 hx Bd.returns (hb hby d3_112) hrT
    · show Q3 Z r0 p1 p2 u1 h0 n0 _ T29.heap _
      rw [e29]
      have hv : f_val p1 p2 u1 = (((p2.toInt64) * (p1.toInt64)).toInt32) := by unfold f_val; rw [if_neg hq31_25_0]; rw [if_neg hq31_25_1]; rw [if_pos hq31_25]
      exact ⟨(congrArg (fun z => some (Value.int z)) hv.symm), N29, rfl⟩
  · skip
    have hq31_26_0 : ¬ u1 = (0 : Int32) := by rw [hq31_26]; decide
    have hq31_26_1 : ¬ u1 = (1 : Int32) := by rw [hq31_26]; decide
    have hq31_26_2 : ¬ u1 = (2 : Int32) := by rw [hq31_26]; decide
    obtain ⟨_, _, ⟨T30, L30, k30, n30⟩, -, X30, ⟨Lc30, hQ30, l30, y30, z30⟩, st30⟩ := Jvm.LawKit.callS X21 hx (y := (⟨"java/lang/Math", "toIntExact", "(J)I"⟩ : MethodName)) hown (mvT hZ (hw _ (List.mem_of_getElem? (i := 42) rfl))) (mvT hZ (hw _ (List.mem_of_getElem? (i := 43) rfl))) (mvT hZ (hw _ (List.mem_of_getElem? (i := 35) rfl))) (mvT hZ (hw _ (List.mem_of_getElem? (i := 44) rfl))) (by decide) (backOf (W := 0) (rm6 l Z a0 hw [] (((p1.toInt64) * ((p1.toInt64) + (5 : Int64))) / (2 : Int64)) h0 n0 Z0 (own_d h1)) hZ (hw _ (List.mem_of_getElem? (i := 44) rfl)) (hw _ (List.mem_of_getElem? (i := 35) rfl)) (by decide) (by decide)) (g := (mkF m 107 #[.val (.ref r0), .val (.int p1), .val (.int p2), .unset] [(.long (((p1.toInt64) * ((p1.toInt64) + (5 : Int64))) / (2 : Int64)))])) rfl (by rw [hml]; rfl) (argsL := [(.long (((p1.toInt64) * ((p1.toInt64) + (5 : Int64))) / (2 : Int64)))]) (rest := []) (lenOf pd__J_I rfl) rfl (by show 2 * 0 + _ ≤ _; exact Nat.le_of_eq rfl) (hb hby d3_107) (fun _ _ => ⟨rfl, e21, (by decide : 0 + 0 ≤ _), (by decide : 0 + 0 ≤ _)⟩)
    dsimp only [Pt.U, Pt.locs, Pt.cells, Pt.slots] at X30 l30 y30 z30 st30 hQ30
    subst l30 y30 z30
    obtain ⟨rfl, Nq30, e30⟩ := hQ30
    have N30 := Fr.app N21 Nq30
    obtain ⟨fs, hrT, hrunT, hendT, hWT, hsameT⟩ := X30.leave (v := some (.int ((((p1.toInt64) * ((p1.toInt64) + (5 : Int64))) / (2 : Int64)).toInt32))) (fun h => by rw [Bd.returns] at h; cases h)
    refine ⟨_, _, S22 _ ?_, hrunT, hendT, _, _, rfl, ?_, ⟨_, rfl⟩, hWT, hsameT.mono (by decide) (by decide)⟩
    · show Steps p.tables e below (T21.setTop (mkF m 31 #[.val (.ref r0), .val (.int p1), .val (.int p2), .unset] [(.int u1)])) _
      refine XS.tswIn X21.here hx rfl (pc0 := 31) (pc' := 94) rfl (hb hby d3_31) rfl (by rw [hq31_26]; decide) (by rw [hq31_26]; rfl) (by decide) (by decide) ?_
      show Steps p.tables e below (T21.setTop (mkF m 94 #[.val (.ref r0), .val (.int p1), .val (.int p2), .unset] [])) _
      refine XS.iloadN X21.here hx rfl (hb hby d3_94) rfl ?_
      show Steps p.tables e below (T21.setTop (mkF m 95 #[.val (.ref r0), .val (.int p1), .val (.int p2), .unset] [(.int p1)])) _
      refine XS.i2l X21.here hx rfl (hb hby d3_95) rfl ?_
      show Steps p.tables e below (T21.setTop (mkF m 96 #[.val (.ref r0), .val (.int p1), .val (.int p2), .unset] [(.long (p1.toInt64))])) _
      refine XS.iloadN X21.here hx rfl (hb hby d3_96) rfl ?_
      show Steps p.tables e below (T21.setTop (mkF m 97 #[.val (.ref r0), .val (.int p1), .val (.int p2), .unset] [(.int p1), (.long (p1.toInt64))])) _
      refine XS.i2l X21.here hx rfl (hb hby d3_97) rfl ?_
      show Steps p.tables e below (T21.setTop (mkF m 98 #[.val (.ref r0), .val (.int p1), .val (.int p2), .unset] [(.long (p1.toInt64)), (.long (p1.toInt64))])) _
      refine X21.ldc2Long hx hown (mvT hZ (hw _ (List.mem_of_getElem? (i := 40) rfl))) (g := (mkF m 98 #[.val (.ref r0), .val (.int p1), .val (.int p2), .unset] [(.long (p1.toInt64)), (.long (p1.toInt64))])) rfl (hb hby d3_98) _ ?_
      show Steps p.tables e below (T21.setTop (mkF m 101 #[.val (.ref r0), .val (.int p1), .val (.int p2), .unset] [(.long (5 : Int64)), (.long (p1.toInt64)), (.long (p1.toInt64))])) _
      refine XS.ladd X21.here hx rfl (hb hby d3_101) rfl ?_
      show Steps p.tables e below (T21.setTop (mkF m 102 #[.val (.ref r0), .val (.int p1), .val (.int p2), .unset] [(.long ((p1.toInt64) + (5 : Int64))), (.long (p1.toInt64))])) _
      refine XS.lmul X21.here hx rfl (hb hby d3_102) rfl ?_
      show Steps p.tables e below (T21.setTop (mkF m 103 #[.val (.ref r0), .val (.int p1), .val (.int p2), .unset] [(.long ((p1.toInt64) * ((p1.toInt64) + (5 : Int64))))])) _
      refine X21.ldc2Long hx hown (mvT hZ (hw _ (List.mem_of_getElem? (i := 41) rfl))) (g := (mkF m 103 #[.val (.ref r0), .val (.int p1), .val (.int p2), .unset] [(.long ((p1.toInt64) * ((p1.toInt64) + (5 : Int64))))])) rfl (hb hby d3_103) _ ?_
      show Steps p.tables e below (T21.setTop (mkF m 106 #[.val (.ref r0), .val (.int p1), .val (.int p2), .unset] [(.long (2 : Int64)), (.long ((p1.toInt64) * ((p1.toInt64) + (5 : Int64))))])) _
      refine XS.ldiv X21.here hx rfl (hb hby d3_106) rfl (by decide) ?_
      show Steps p.tables e below (T21.setTop (mkF m 107 #[.val (.ref r0), .val (.int p1), .val (.int p2), .unset] [(.long (((p1.toInt64) * ((p1.toInt64) + (5 : Int64))) / (2 : Int64)))])) _
      refine st30 _ ?_
      show Steps p.tables e below (T30.setTop (mkF m 110 #[.val (.ref r0), .val (.int p1), .val (.int p2), .unset] [(.int ((((p1.toInt64) * ((p1.toInt64) + (5 : Int64))) / (2 : Int64)).toInt32))])) _
      refine XS.istoreN X30.here hx rfl (hb hby d3_110) rfl (l' := #[.val (.ref r0), .val (.int p1), .val (.int p2), .val (.int ((((p1.toInt64) * ((p1.toInt64) + (5 : Int64))) / (2 : Int64)).toInt32))]) rfl ?_
      show Steps p.tables e below (T30.setTop (mkF m 111 #[.val (.ref r0), .val (.int p1), .val (.int p2), .val (.int ((((p1.toInt64) * ((p1.toInt64) + (5 : Int64))) / (2 : Int64)).toInt32))] [])) _
      refine XS.iloadN X30.here hx rfl (hb hby d3_111) rfl ?_
      show Steps p.tables e below (T30.setTop (mkF m 112 #[.val (.ref r0), .val (.int p1), .val (.int p2), .val (.int ((((p1.toInt64) * ((p1.toInt64) + (5 : Int64))) / (2 : Int64)).toInt32))] [(.int ((((p1.toInt64) * ((p1.toInt64) + (5 : Int64))) / (2 : Int64)).toInt32))])) _
      exact retI X30 hx Bd.returns (hb hby d3_112) hrT
    · show Q3 Z r0 p1 p2 u1 h0 n0 _ T30.heap _
      rw [e30]
      have hv : f_val p1 p2 u1 = ((((p1.toInt64) * ((p1.toInt64) + (5 : Int64))) / (2 : Int64)).toInt32) := by unfold f_val; rw [if_neg hq31_26_0]; rw [if_neg hq31_26_1]; rw [if_neg hq31_26_2]; rw [if_pos hq31_26]
      exact ⟨(congrArg (fun z => some (Value.int z)) hv.symm), N30, rfl⟩
  · skip
    have hq31_27_0 : ¬ u1 = (0 : Int32) := by rw [hq31_27]; decide
    have hq31_27_1 : ¬ u1 = (1 : Int32) := by rw [hq31_27]; decide
    have hq31_27_2 : ¬ u1 = (2 : Int32) := by rw [hq31_27]; decide
    have hq31_27_3 : ¬ u1 = (3 : Int32) := by rw [hq31_27]; decide
    obtain ⟨fs, hrT, hrunT, hendT, hWT, hsameT⟩ := X21.leave (v := some (.int p2)) (fun h => by rw [Bd.returns] at h; cases h)
    refine ⟨_, _, S22 _ ?_, hrunT, hendT, _, _, rfl, ?_, ⟨_, rfl⟩, hWT, hsameT.mono (by decide) (by decide)⟩
    · show Steps p.tables e below (T21.setTop (mkF m 31 #[.val (.ref r0), .val (.int p1), .val (.int p2), .unset] [(.int u1)])) _
      refine XS.tswIn X21.here hx rfl (pc0 := 31) (pc' := 74) rfl (hb hby d3_31) rfl (by rw [hq31_27]; decide) (by rw [hq31_27]; rfl) (by decide) (by decide) ?_
      show Steps p.tables e below (T21.setTop (mkF m 74 #[.val (.ref r0), .val (.int p1), .val (.int p2), .unset] [])) _
      refine XS.iloadN X21.here hx rfl (hb hby d3_74) rfl ?_
      show Steps p.tables e below (T21.setTop (mkF m 75 #[.val (.ref r0), .val (.int p1), .val (.int p2), .unset] [(.int p2)])) _
      refine XS.goto X21.here hx rfl (pc0 := 75) (pc' := 110) rfl (hb hby d3_75) (by decide) (by decide) ?_
      show Steps p.tables e below (T21.setTop (mkF m 110 #[.val (.ref r0), .val (.int p1), .val (.int p2), .unset] [(.int p2)])) _
      refine XS.istoreN X21.here hx rfl (hb hby d3_110) rfl (l' := #[.val (.ref r0), .val (.int p1), .val (.int p2), .val (.int p2)]) rfl ?_
      show Steps p.tables e below (T21.setTop (mkF m 111 #[.val (.ref r0), .val (.int p1), .val (.int p2), .val (.int p2)] [])) _
      refine XS.iloadN X21.here hx rfl (hb hby d3_111) rfl ?_
      show Steps p.tables e below (T21.setTop (mkF m 112 #[.val (.ref r0), .val (.int p1), .val (.int p2), .val (.int p2)] [(.int p2)])) _
      exact retI X21 hx Bd.returns (hb hby d3_112) hrT
    · show Q3 Z r0 p1 p2 u1 h0 n0 _ T21.heap _
      rw [e21]
      have hv : f_val p1 p2 u1 = p2 := by unfold f_val; rw [if_neg hq31_27_0]; rw [if_neg hq31_27_1]; rw [if_neg hq31_27_2]; rw [if_neg hq31_27_3]
      exact ⟨(congrArg (fun z => some (Value.int z)) hv.symm), N21, rfl⟩
theorem own_r (p : Int32) : 1 ≤ ((1 : Int32) + (p &&& (1023 : Int32))).toInt ∧ ((1 : Int32) + (p &&& (1023 : Int32))).toInt ≤ 1024 := by
  have e1 : (p &&& (1023 : Int32)).toInt = p.toInt % 2 ^ 10 := Jvm.Kit.i32_mask p (1023 : Int32) (k := 10) (by decide) (by decide)
  have one : (1 : Int32).toInt = 1 := rfl
  rw [Jvm.Kit.i32_add (by omega) (by omega)]
  omega
theorem own_p (p : Int32) : 0 ≤ (p &&& (65535 : Int32)).toInt ∧ (p &&& (65535 : Int32)).toInt ≤ 65535 := by
  have e1 : (p &&& (65535 : Int32)).toInt = p.toInt % 2 ^ 16 := Jvm.Kit.i32_mask p (65535 : Int32) (k := 16) (by decide) (by decide)
  omega
theorem own_p1 {p : Int32} (h : 0 ≤ p.toInt ∧ p.toInt ≤ 65535) : (p + (1 : Int32)).toInt = p.toInt + 1 := by
  have one : (1 : Int32).toInt = 1 := rfl
  rw [Jvm.Kit.i32_add (by omega) (by omega), one]
theorem own_A {Z : State} {h0 : Heap} {bb vH vB : Addr} {kk : Int32} (hk : 0 ≤ kk.toInt ∧ kk.toInt < 5) (F : Fld Z h0 bb "java/lang/Enum" "ordinal" "I" (.int kk)) (FH : Fld Z h0 vH "java/lang/Enum" "ordinal" "I" (.int (1 : Int32))) (FB : Fld Z h0 vB "java/lang/Enum" "ordinal" "I" (.int (3 : Int32)))
    (q1 : kk = (1 : Int32) → bb = vH) (q3 : kk = (3 : Int32) → bb = vB) : f_ccp bb vH vB = (if kk = 0 then (1 : Int32) else (if kk = (2 : Int32) then (1 : Int32) else (if kk = (4 : Int32) then (1 : Int32) else (0 : Int32)))) := by
  unfold f_ccp
  have ap : ∀ {v : Addr} {n : Int32}, Fld Z h0 v "java/lang/Enum" "ordinal" "I" (.int n) → kk ≠ n → ¬ bb = v := fun G q => own_apart F G (fun e => q (by injection e))
  rcases own_or kk hk with rfl | rfl | rfl | rfl | rfl
  · rw [if_neg (ap FH (by decide)), if_neg (ap FB (by decide))]; decide
  · rw [if_pos (q1 rfl)]; decide
  · rw [if_neg (ap FH (by decide)), if_neg (ap FB (by decide))]; decide
  · rw [if_neg (ap FH (by decide)), if_pos (q3 rfl)]; decide
  · rw [if_neg (ap FH (by decide)), if_neg (ap FB (by decide))]; decide
theorem own_B {r p kk : Int32} (hk : 0 ≤ kk.toInt ∧ kk.toInt < 5) (hr : 1 ≤ r.toInt ∧ r.toInt ≤ 1024) (hp : 0 ≤ p.toInt ∧ p.toInt ≤ 65535) :
    (if kk = 0 then (1 : Int32) else (if kk = (2 : Int32) then (1 : Int32) else (if kk = (4 : Int32) then (1 : Int32) else (0 : Int32)))) = (if (f_val r p kk) = (f_val r (p + (1 : Int32)) kk) then (0 : Int32) else (1 : Int32)) := by
  have e1 := own_p1 hp
  have np : ¬ p = p + (1 : Int32) := fun q => by have := congrArg Int32.toInt q; omega
  have fw : ∀ x : Int32, 0 ≤ x.toInt → x.toInt ≤ 65536 → ((x.toInt64) * (r.toInt64)).toInt32.toInt = x.toInt * r.toInt := fun x h1 h2 => by
    have a1 : 0 ≤ x.toInt * r.toInt := Int.mul_nonneg h1 (by omega)
    have a2 : x.toInt * r.toInt ≤ 65536 * 1024 := Int.mul_le_mul h2 hr.2 (by omega) (by decide)
    rw [XT.narrowInt (by rw [XT.wideMul]; exact ⟨by omega, by omega⟩), XT.wideMul]
  have v0 : ∀ p, f_val r p 0 = p := fun p => by unfold f_val; rw [if_pos rfl]
  have v1 : ∀ p, f_val r p 1 = ((r.toInt64) * (r.toInt64)).toInt32 := fun p => by unfold f_val; rw [if_neg (by decide), if_pos rfl]
  have v2 : ∀ p, f_val r p 2 = ((p.toInt64) * (r.toInt64)).toInt32 := fun p => by unfold f_val; rw [if_neg (by decide), if_neg (by decide), if_pos rfl]
  have v3 : ∀ p q, f_val r p 3 = f_val r q 3 := fun p q => by unfold f_val; rw [if_neg (by decide), if_neg (by decide), if_neg (by decide), if_pos rfl, if_neg (by decide), if_neg (by decide), if_neg (by decide), if_pos rfl]
  have v4 : ∀ p, f_val r p 4 = p := fun p => by unfold f_val; rw [if_neg (by decide), if_neg (by decide), if_neg (by decide), if_neg (by decide)]
  rcases own_or kk hk with rfl | rfl | rfl | rfl | rfl
  · rw [v0, v0, if_neg np]; decide
  · rw [v1, v1, if_pos rfl]; decide
  · have q : ¬ (((p.toInt64) * (r.toInt64)).toInt32) = ((((p + (1 : Int32)).toInt64) * (r.toInt64)).toInt32) := fun q => by
      have := congrArg Int32.toInt q
      rw [fw p hp.1 (by omega), fw _ (by omega) (by omega), e1, Int.add_mul] at this
      omega
    rw [v2, v2, if_neg q]; decide
  · rw [if_pos (v3 _ _)]; decide
  · rw [v4, v4, if_neg np]; decide
theorem pd__I_Lcom_example_runehall_runehall_tavern_DwarfClass_ : parseMethodDescriptor "(I)Lcom/example/runehall/runehall/tavern/DwarfClass;" = some ⟨[.int], some (.object "com/example/runehall/runehall/tavern/DwarfClass")⟩ := by decide +kernel
theorem pd___Z : parseMethodDescriptor "()Z" = some ⟨[], some .boolean⟩ := by decide +kernel
theorem ef0 (m : MethodId) (x0 : Int32) (x1 : Int32) (x2 : Int32) : entryFrame m #[(.int x0), (.int x1), (.int x2)] maxLocals = mkF m 0 #[.val (.int x0), .val (.int x1), .val (.int x2), .unset, .unset, .unset, .unset, .unset, .unset, .unset] [] := by first | (simp [entryFrame, mkF, argsToLocals, Value.category, maxLocals]; done) | rfl
def Q0 (Z : State) (p0 : Int32) (p1 : Int32) (p2 : Int32) (v_WARRIOR : Addr) (v_HUNTER : Addr) (v_BLACKSMITH : Addr) (v_EXPLORER : Addr) (v_MINER : Addr) (h0 : Heap) (n0 : Nat) (v : Option Value) (h : Heap) (L : List Loc) : Prop := v = some (.int (1 : Int32)) ∧ Fr n0 L
set_option maxRecDepth 65536 in
set_option maxHeartbeats 40000000 in
theorem rm0 (l : Launch) (Z : State) (a0 : Array Value) (hw : ∀ d ∈ tables_1, d.before a0 Z = true) (ws : List Jvm.Cond) (p0 : Int32) (p1 : Int32) (p2 : Int32) (v_WARRIOR : Addr) (v_HUNTER : Addr) (v_BLACKSMITH : Addr) (v_EXPLORER : Addr) (v_MINER : Addr) (h0 : Heap) (n0 : Nat) (Z0 : n0 ≤ h0.size) (Sv_WARRIOR : Sta Z h0 "com/example/runehall/runehall/tavern/DwarfClass" "WARRIOR" "Lcom/example/runehall/runehall/tavern/DwarfClass;" (.ref v_WARRIOR)) (Ev_WARRIOR : Exa Z h0 v_WARRIOR "com/example/runehall/runehall/tavern/DwarfClass") (Sv_HUNTER : Sta Z h0 "com/example/runehall/runehall/tavern/DwarfClass" "HUNTER" "Lcom/example/runehall/runehall/tavern/DwarfClass;" (.ref v_HUNTER)) (Ev_HUNTER : Exa Z h0 v_HUNTER "com/example/runehall/runehall/tavern/DwarfClass") (Sv_BLACKSMITH : Sta Z h0 "com/example/runehall/runehall/tavern/DwarfClass" "BLACKSMITH" "Lcom/example/runehall/runehall/tavern/DwarfClass;" (.ref v_BLACKSMITH)) (Ev_BLACKSMITH : Exa Z h0 v_BLACKSMITH "com/example/runehall/runehall/tavern/DwarfClass") (Sv_EXPLORER : Sta Z h0 "com/example/runehall/runehall/tavern/DwarfClass" "EXPLORER" "Lcom/example/runehall/runehall/tavern/DwarfClass;" (.ref v_EXPLORER)) (Ev_EXPLORER : Exa Z h0 v_EXPLORER "com/example/runehall/runehall/tavern/DwarfClass") (Sv_MINER : Sta Z h0 "com/example/runehall/runehall/tavern/DwarfClass" "MINER" "Lcom/example/runehall/runehall/tavern/DwarfClass;" (.ref v_MINER)) (Ev_MINER : Exa Z h0 v_MINER "com/example/runehall/runehall/tavern/DwarfClass") (Fv_WARRIOR_ordinal : Fld Z h0 v_WARRIOR "java/lang/Enum" "ordinal" "I" (.int (0 : Int32))) (Fv_HUNTER_ordinal : Fld Z h0 v_HUNTER "java/lang/Enum" "ordinal" "I" (.int (1 : Int32))) (Fv_BLACKSMITH_ordinal : Fld Z h0 v_BLACKSMITH "java/lang/Enum" "ordinal" "I" (.int (3 : Int32))) (Fv_EXPLORER_ordinal : Fld Z h0 v_EXPLORER "java/lang/Enum" "ordinal" "I" (.int (4 : Int32))) (Fv_MINER_ordinal : Fld Z h0 v_MINER "java/lang/Enum" "ordinal" "I" (.int (2 : Int32))) :
    MetFree l x (head1 (Jvm.Cond.code x code maxLocals ret :: ws) room_1) (fun a U => a = #[(.int p0), (.int p1), (.int p2)] ∧ Z.Warmed39 U.vm ∧ U.heap = h0) (fun _ _ _ _ _ => True) (fun _ U o U' => ∃ v L, o = .returned v ∧ Q0 Z p0 p1 p2 v_WARRIOR v_HUNTER v_BLACKSMITH v_EXPLORER v_MINER h0 n0 v U'.heap L ∧ FrameEnd U o U' L room_1.cells room_1.slots) := by
  refine MetFree.of_bodySF (plainFor_of_name pn_DwarfClassCardsCarryPointsPinLaw) hisR ?_
  intro p e s m args below meth c s₁ Bd hml0 hP hK
  obtain ⟨rfl, hZ, hh⟩ := hP
  have hx := Bd.exec
  have hby := Bd.bytes
  have hml : c.maxLocals = 10 := hml0
  have hown : s.vm.findClass "com/example/runehall/runehall/tavern/DwarfClassCardsCarryPointsPinLaw" = some m.cls := findClass_of_methodNamed Bd.named
  have hnm := (name_of_methodNamed Bd.named Bd.method).1
  have X0 : Stand p l e room_1 s m #[(.int p0), (.int p1), (.int p2)] below meth c s₁ [] 0 0 := Stand.of_body Bd
  have e0 : s₁.heap = h0 := by rw [← hh, Bd.state]; rfl
  have N0 := Fr.nil n0
  have pre0 : ∀ t, Steps p.tables e below (s₁.setTop (mkF m 0 #[.val (.int p0), .val (.int p1), .val (.int p2), .unset, .unset, .unset, .unset, .unset, .unset, .unset] [])) t → Steps p.tables e below (s₁.setTop (entryFrame m #[(.int p0), (.int p1), (.int p2)] maxLocals)) t := fun t k => castTop (ef0 m p0 p1 p2) k
  have S31 : ∀ t, Steps p.tables e below (s₁.setTop (mkF m 7 #[.val (.int p0), .val (.int p1), .val (.int p2), .val (.int ((p0 &&& (2147483647 : Int32)) % (5 : Int32))), .unset, .unset, .unset, .unset, .unset, .unset] [])) t → Steps p.tables e below (s₁.setTop (entryFrame m #[(.int p0), (.int p1), (.int p2)] maxLocals)) t := by
    intro t kt
    refine pre0 _ ?_
    show Steps p.tables e below (s₁.setTop (mkF m 0 #[.val (.int p0), .val (.int p1), .val (.int p2), .unset, .unset, .unset, .unset, .unset, .unset, .unset] [])) _
    refine XS.iloadN X0.here hx rfl (hb hby at_0) rfl ?_
    show Steps p.tables e below (s₁.setTop (mkF m 1 #[.val (.int p0), .val (.int p1), .val (.int p2), .unset, .unset, .unset, .unset, .unset, .unset, .unset] [(.int p0)])) _
    refine X0.ldcInt hx hown (mvT hZ (hw _ (List.mem_of_getElem? (i := 0) rfl))) (g := (mkF m 1 #[.val (.int p0), .val (.int p1), .val (.int p2), .unset, .unset, .unset, .unset, .unset, .unset, .unset] [(.int p0)])) rfl (hb hby at_1) _ ?_
    show Steps p.tables e below (s₁.setTop (mkF m 3 #[.val (.int p0), .val (.int p1), .val (.int p2), .unset, .unset, .unset, .unset, .unset, .unset, .unset] [(.int (2147483647 : Int32)), (.int p0)])) _
    refine XS.iand X0.here hx rfl (hb hby at_3) rfl ?_
    show Steps p.tables e below (s₁.setTop (mkF m 4 #[.val (.int p0), .val (.int p1), .val (.int p2), .unset, .unset, .unset, .unset, .unset, .unset, .unset] [(.int (p0 &&& (2147483647 : Int32)))])) _
    refine XS.iconst X0.here hx rfl (hb hby at_4) ?_
    show Steps p.tables e below (s₁.setTop (mkF m 5 #[.val (.int p0), .val (.int p1), .val (.int p2), .unset, .unset, .unset, .unset, .unset, .unset, .unset] [(.int (5 : Int32)), (.int (p0 &&& (2147483647 : Int32)))])) _
    refine iremM X0 hx rfl (hb hby at_5) rfl (by decide) ?_
    show Steps p.tables e below (s₁.setTop (mkF m 6 #[.val (.int p0), .val (.int p1), .val (.int p2), .unset, .unset, .unset, .unset, .unset, .unset, .unset] [(.int ((p0 &&& (2147483647 : Int32)) % (5 : Int32)))])) _
    refine XS.istoreN X0.here hx rfl (hb hby at_6) rfl (l' := #[.val (.int p0), .val (.int p1), .val (.int p2), .val (.int ((p0 &&& (2147483647 : Int32)) % (5 : Int32))), .unset, .unset, .unset, .unset, .unset, .unset]) rfl ?_
    exact kt
  obtain ⟨kk, hd_kk⟩ : ∃ z, z = ((p0 &&& (2147483647 : Int32)) % (5 : Int32)) := ⟨_, rfl⟩
  rw [← hd_kk] at S31
  obtain ⟨_, _, ⟨T32, L32, k32, n32⟩, -, X32, ⟨Lc32, hQ32, l32, y32, z32⟩, st32⟩ := Jvm.LawKit.callS X0 hx (y := (⟨"com/example/runehall/runehall/tavern/DwarfClassCardsCarryPointsPinLaw", "pick", "(I)Lcom/example/runehall/runehall/tavern/DwarfClass;"⟩ : MethodName)) hown (mvT hZ (hw _ (List.mem_of_getElem? (i := 1) rfl))) (mvT hZ (hw _ (List.mem_of_getElem? (i := 2) rfl))) (mvT hZ (hw _ (List.mem_of_getElem? (i := 3) rfl))) (mvT hZ (hw _ (List.mem_of_getElem? (i := 4) rfl))) (by decide) (backOf (W := 0) (rm1 l Z a0 hw [] kk v_WARRIOR v_HUNTER v_BLACKSMITH v_EXPLORER v_MINER h0 n0 Z0 (by rw [hd_kk]; exact own_mod p0) Sv_WARRIOR Ev_WARRIOR Sv_HUNTER Ev_HUNTER Sv_BLACKSMITH Ev_BLACKSMITH Sv_EXPLORER Ev_EXPLORER Sv_MINER Ev_MINER Fv_WARRIOR_ordinal Fv_HUNTER_ordinal Fv_BLACKSMITH_ordinal Fv_EXPLORER_ordinal Fv_MINER_ordinal) hZ (hw _ (List.mem_of_getElem? (i := 4) rfl)) (hw _ (List.mem_of_getElem? (i := 3) rfl)) (by decide) (by decide)) (g := (mkF m 8 #[.val (.int p0), .val (.int p1), .val (.int p2), .val (.int kk), .unset, .unset, .unset, .unset, .unset, .unset] [(.int kk)])) rfl (by rw [hml]; rfl) (argsL := [(.int kk)]) (rest := []) (lenOf pd__I_Lcom_example_runehall_runehall_tavern_DwarfClass_ rfl) rfl (by show 2 * 0 + _ ≤ _; exact Nat.le_of_eq rfl) (hb hby at_8) (fun _ _ => ⟨rfl, e0, (by decide : 0 + 0 ≤ _), (by decide : 0 + 0 ≤ _)⟩)
  dsimp only [Pt.U, Pt.locs, Pt.cells, Pt.slots] at X32 l32 y32 z32 st32 hQ32
  subst l32 y32 z32
  obtain ⟨bb_32, rfl, Nq32, e32, f32_0, f32_1, f32_2, f32_3⟩ := hQ32
  rw [e32] at f32_0 f32_1
  have N32 := Fr.app N0 Nq32
  have S33 : ∀ t, Steps p.tables e below (T32.setTop (mkF m 22 #[.val (.int p0), .val (.int p1), .val (.int p2), .val (.int kk), .val (.ref bb_32), .val (.int ((1 : Int32) + (p1 &&& (1023 : Int32)))), .unset, .unset, .unset, .unset] [])) t → Steps p.tables e below (s₁.setTop (entryFrame m #[(.int p0), (.int p1), (.int p2)] maxLocals)) t := by
    intro t kt
    refine S31 _ ?_
    show Steps p.tables e below (s₁.setTop (mkF m 7 #[.val (.int p0), .val (.int p1), .val (.int p2), .val (.int kk), .unset, .unset, .unset, .unset, .unset, .unset] [])) _
    refine XS.iloadN X0.here hx rfl (hb hby at_7) rfl ?_
    show Steps p.tables e below (s₁.setTop (mkF m 8 #[.val (.int p0), .val (.int p1), .val (.int p2), .val (.int kk), .unset, .unset, .unset, .unset, .unset, .unset] [(.int kk)])) _
    refine st32 _ ?_
    show Steps p.tables e below (T32.setTop (mkF m 11 #[.val (.int p0), .val (.int p1), .val (.int p2), .val (.int kk), .unset, .unset, .unset, .unset, .unset, .unset] [(.ref bb_32)])) _
    refine XS.astore X32.here hx rfl (hb hby at_11) rfl rfl (l' := #[.val (.int p0), .val (.int p1), .val (.int p2), .val (.int kk), .val (.ref bb_32), .unset, .unset, .unset, .unset, .unset]) rfl ?_
    show Steps p.tables e below (T32.setTop (mkF m 13 #[.val (.int p0), .val (.int p1), .val (.int p2), .val (.int kk), .val (.ref bb_32), .unset, .unset, .unset, .unset, .unset] [])) _
    refine XS.iconst X32.here hx rfl (hb hby at_13) ?_
    show Steps p.tables e below (T32.setTop (mkF m 14 #[.val (.int p0), .val (.int p1), .val (.int p2), .val (.int kk), .val (.ref bb_32), .unset, .unset, .unset, .unset, .unset] [(.int (1 : Int32))])) _
    refine XS.iloadN X32.here hx rfl (hb hby at_14) rfl ?_
    show Steps p.tables e below (T32.setTop (mkF m 15 #[.val (.int p0), .val (.int p1), .val (.int p2), .val (.int kk), .val (.ref bb_32), .unset, .unset, .unset, .unset, .unset] [(.int p1), (.int (1 : Int32))])) _
    refine XS.sipush X32.here hx rfl (hb hby at_15) ?_
    show Steps p.tables e below (T32.setTop (mkF m 18 #[.val (.int p0), .val (.int p1), .val (.int p2), .val (.int kk), .val (.ref bb_32), .unset, .unset, .unset, .unset, .unset] [(.int (1023 : Int32)), (.int p1), (.int (1 : Int32))])) _
    refine XS.iand X32.here hx rfl (hb hby at_18) rfl ?_
    show Steps p.tables e below (T32.setTop (mkF m 19 #[.val (.int p0), .val (.int p1), .val (.int p2), .val (.int kk), .val (.ref bb_32), .unset, .unset, .unset, .unset, .unset] [(.int (p1 &&& (1023 : Int32))), (.int (1 : Int32))])) _
    refine XS.iadd X32.here hx rfl (hb hby at_19) rfl ?_
    show Steps p.tables e below (T32.setTop (mkF m 20 #[.val (.int p0), .val (.int p1), .val (.int p2), .val (.int kk), .val (.ref bb_32), .unset, .unset, .unset, .unset, .unset] [(.int ((1 : Int32) + (p1 &&& (1023 : Int32))))])) _
    refine XS.istore X32.here hx rfl (hb hby at_20) rfl (l' := #[.val (.int p0), .val (.int p1), .val (.int p2), .val (.int kk), .val (.ref bb_32), .val (.int ((1 : Int32) + (p1 &&& (1023 : Int32)))), .unset, .unset, .unset, .unset]) rfl ?_
    exact kt
  obtain ⟨rr, hd_rr⟩ : ∃ z, z = ((1 : Int32) + (p1 &&& (1023 : Int32))) := ⟨_, rfl⟩
  rw [← hd_rr] at S33
  have S34 : ∀ t, Steps p.tables e below (T32.setTop (mkF m 28 #[.val (.int p0), .val (.int p1), .val (.int p2), .val (.int kk), .val (.ref bb_32), .val (.int rr), .val (.int (p2 &&& (65535 : Int32))), .unset, .unset, .unset] [])) t → Steps p.tables e below (s₁.setTop (entryFrame m #[(.int p0), (.int p1), (.int p2)] maxLocals)) t := by
    intro t kt
    refine S33 _ ?_
    show Steps p.tables e below (T32.setTop (mkF m 22 #[.val (.int p0), .val (.int p1), .val (.int p2), .val (.int kk), .val (.ref bb_32), .val (.int rr), .unset, .unset, .unset, .unset] [])) _
    refine XS.iloadN X32.here hx rfl (hb hby at_22) rfl ?_
    show Steps p.tables e below (T32.setTop (mkF m 23 #[.val (.int p0), .val (.int p1), .val (.int p2), .val (.int kk), .val (.ref bb_32), .val (.int rr), .unset, .unset, .unset, .unset] [(.int p2)])) _
    refine X32.ldcInt hx hown (mvT hZ (hw _ (List.mem_of_getElem? (i := 8) rfl))) (g := (mkF m 23 #[.val (.int p0), .val (.int p1), .val (.int p2), .val (.int kk), .val (.ref bb_32), .val (.int rr), .unset, .unset, .unset, .unset] [(.int p2)])) rfl (hb hby at_23) _ ?_
    show Steps p.tables e below (T32.setTop (mkF m 25 #[.val (.int p0), .val (.int p1), .val (.int p2), .val (.int kk), .val (.ref bb_32), .val (.int rr), .unset, .unset, .unset, .unset] [(.int (65535 : Int32)), (.int p2)])) _
    refine XS.iand X32.here hx rfl (hb hby at_25) rfl ?_
    show Steps p.tables e below (T32.setTop (mkF m 26 #[.val (.int p0), .val (.int p1), .val (.int p2), .val (.int kk), .val (.ref bb_32), .val (.int rr), .unset, .unset, .unset, .unset] [(.int (p2 &&& (65535 : Int32)))])) _
    refine XS.istore X32.here hx rfl (hb hby at_26) rfl (l' := #[.val (.int p0), .val (.int p1), .val (.int p2), .val (.int kk), .val (.ref bb_32), .val (.int rr), .val (.int (p2 &&& (65535 : Int32))), .unset, .unset, .unset]) rfl ?_
    exact kt
  obtain ⟨pp, hd_pp⟩ : ∃ z, z = (p2 &&& (65535 : Int32)) := ⟨_, rfl⟩
  rw [← hd_pp] at S34
  obtain ⟨cq35, kq35, q35a, q35b, q35c⟩ := isOf hZ e32 f32_0
  obtain ⟨_, _, ⟨T35, L35, k35, n35⟩, -, X35, ⟨Lc35, hQ35, l35, y35, z35⟩, st35⟩ := X32.virtualBack hx (y := (⟨"com/example/runehall/runehall/tavern/DwarfClass", "cardsCarryPoints", "()Z"⟩ : MethodName)) (z := (⟨"com/example/runehall/runehall/tavern/DwarfClass", "cardsCarryPoints", "()Z"⟩ : MethodName)) hown (mvT hZ (hw _ (List.mem_of_getElem? (i := 9) rfl))) (mvT hZ (hw _ (List.mem_of_getElem? (i := 10) rfl))) (notFace_of_selects (args := #[]) (mvT hZ (hw _ (List.mem_of_getElem? (i := 12) rfl)))) (mvT hZ (hw _ (List.mem_of_getElem? (i := 12) rfl))) (mvT hZ (hw _ (List.mem_of_getElem? (i := 11) rfl))) (by decide) (backOf (W := 0) (rm2 l Z a0 hw [] bb_32 v_HUNTER v_BLACKSMITH h0 n0 Z0 Sv_HUNTER Sv_BLACKSMITH) hZ (hw _ (List.mem_of_getElem? (i := 13) rfl)) (hw _ (List.mem_of_getElem? (i := 6) rfl)) (by decide) (by decide)) q35a q35c (g := (mkF m 30 #[.val (.int p0), .val (.int p1), .val (.int p2), .val (.int kk), .val (.ref bb_32), .val (.int rr), .val (.int pp), .unset, .unset, .unset] [(.ref bb_32)])) rfl (by rw [hml]; rfl) (Steps.refl _) (argsL := []) (rest := []) (lenOf pd___Z rfl) rfl (by show 2 * 0 + _ ≤ _; exact Nat.le_of_eq rfl) (hb hby at_30) (fun _ _ => ⟨rfl, e32, (by decide : 0 + 0 ≤ _), (by decide : 0 + 0 ≤ _)⟩)
  dsimp only [Pt.U, Pt.locs, Pt.cells, Pt.slots] at X35 l35 y35 z35 st35 hQ35
  subst l35 y35 z35
  obtain ⟨rfl, Nq35, e35⟩ := hQ35
  have N35 := Fr.app N32 Nq35
  have S36 : ∀ t, Steps p.tables e below (T35.setTop (mkF m 36 #[.val (.int p0), .val (.int p1), .val (.int p2), .val (.int kk), .val (.ref bb_32), .val (.int rr), .val (.int pp), .val (.int (f_ccp bb_32 v_HUNTER v_BLACKSMITH)), .unset, .unset] [(.int kk)])) t → Steps p.tables e below (s₁.setTop (entryFrame m #[(.int p0), (.int p1), (.int p2)] maxLocals)) t := by
    intro t kt
    refine S34 _ ?_
    show Steps p.tables e below (T32.setTop (mkF m 28 #[.val (.int p0), .val (.int p1), .val (.int p2), .val (.int kk), .val (.ref bb_32), .val (.int rr), .val (.int pp), .unset, .unset, .unset] [])) _
    refine XS.aload X32.here hx rfl (hb hby at_28) rfl rfl ?_
    show Steps p.tables e below (T32.setTop (mkF m 30 #[.val (.int p0), .val (.int p1), .val (.int p2), .val (.int kk), .val (.ref bb_32), .val (.int rr), .val (.int pp), .unset, .unset, .unset] [(.ref bb_32)])) _
    refine st35.trans ?_
    show Steps p.tables e below (T35.setTop (mkF m 33 #[.val (.int p0), .val (.int p1), .val (.int p2), .val (.int kk), .val (.ref bb_32), .val (.int rr), .val (.int pp), .unset, .unset, .unset] [(.int (f_ccp bb_32 v_HUNTER v_BLACKSMITH))])) _
    refine XS.istore X35.here hx rfl (hb hby at_33) rfl (l' := #[.val (.int p0), .val (.int p1), .val (.int p2), .val (.int kk), .val (.ref bb_32), .val (.int rr), .val (.int pp), .val (.int (f_ccp bb_32 v_HUNTER v_BLACKSMITH)), .unset, .unset]) rfl ?_
    show Steps p.tables e below (T35.setTop (mkF m 35 #[.val (.int p0), .val (.int p1), .val (.int p2), .val (.int kk), .val (.ref bb_32), .val (.int rr), .val (.int pp), .val (.int (f_ccp bb_32 v_HUNTER v_BLACKSMITH)), .unset, .unset] [])) _
    refine XS.iloadN X35.here hx rfl (hb hby at_35) rfl ?_
    exact kt
  have S40 : ∀ t, Steps p.tables e below (T35.setTop (mkF m 54 #[.val (.int p0), .val (.int p1), .val (.int p2), .val (.int kk), .val (.ref bb_32), .val (.int rr), .val (.int pp), .val (.int (f_ccp bb_32 v_HUNTER v_BLACKSMITH)), .unset, .unset] [(.int (if kk = 0 then (1 : Int32) else (if kk = (2 : Int32) then (1 : Int32) else (if kk = (4 : Int32) then (1 : Int32) else (0 : Int32)))))])) t → Steps p.tables e below (s₁.setTop (entryFrame m #[(.int p0), (.int p1), (.int p2)] maxLocals)) t := by
    intro t kt
    refine S36 _ ?_
    by_cases hc36_37 : kk = 0
    case pos =>
      rw [(if_pos hc36_37 : (if kk = 0 then (1 : Int32) else (if kk = (2 : Int32) then (1 : Int32) else (if kk = (4 : Int32) then (1 : Int32) else (0 : Int32)))) = (1 : Int32))] at kt
      show Steps p.tables e below (T35.setTop (mkF m 36 #[.val (.int p0), .val (.int p1), .val (.int p2), .val (.int kk), .val (.ref bb_32), .val (.int rr), .val (.int pp), .val (.int (f_ccp bb_32 v_HUNTER v_BLACKSMITH)), .unset, .unset] [(.int kk)])) _
      refine XS.ifYes X35.here hx rfl (pc0 := 36) (pc' := 49) rfl (hb hby at_36) rfl (XT.i0_eq_t hc36_37) (by decide) (by decide) ?_
      show Steps p.tables e below (T35.setTop (mkF m 49 #[.val (.int p0), .val (.int p1), .val (.int p2), .val (.int kk), .val (.ref bb_32), .val (.int rr), .val (.int pp), .val (.int (f_ccp bb_32 v_HUNTER v_BLACKSMITH)), .unset, .unset] [])) _
      refine XS.iconst X35.here hx rfl (hb hby at_49) ?_
      show Steps p.tables e below (T35.setTop (mkF m 50 #[.val (.int p0), .val (.int p1), .val (.int p2), .val (.int kk), .val (.ref bb_32), .val (.int rr), .val (.int pp), .val (.int (f_ccp bb_32 v_HUNTER v_BLACKSMITH)), .unset, .unset] [(.int (1 : Int32))])) _
      refine XS.goto X35.here hx rfl (pc0 := 50) (pc' := 54) rfl (hb hby at_50) (by decide) (by decide) ?_
      exact kt
    case neg =>
      rw [(if_neg hc36_37 : (if kk = 0 then (1 : Int32) else (if kk = (2 : Int32) then (1 : Int32) else (if kk = (4 : Int32) then (1 : Int32) else (0 : Int32)))) = (if kk = (2 : Int32) then (1 : Int32) else (if kk = (4 : Int32) then (1 : Int32) else (0 : Int32))))] at kt
      show Steps p.tables e below (T35.setTop (mkF m 36 #[.val (.int p0), .val (.int p1), .val (.int p2), .val (.int kk), .val (.ref bb_32), .val (.int rr), .val (.int pp), .val (.int (f_ccp bb_32 v_HUNTER v_BLACKSMITH)), .unset, .unset] [(.int kk)])) _
      refine XS.ifNo X35.here hx rfl (hb hby at_36) rfl (XT.i0_eq_f hc36_37) ?_
      show Steps p.tables e below (T35.setTop (mkF m 39 #[.val (.int p0), .val (.int p1), .val (.int p2), .val (.int kk), .val (.ref bb_32), .val (.int rr), .val (.int pp), .val (.int (f_ccp bb_32 v_HUNTER v_BLACKSMITH)), .unset, .unset] [])) _
      refine XS.iloadN X35.here hx rfl (hb hby at_39) rfl ?_
      show Steps p.tables e below (T35.setTop (mkF m 40 #[.val (.int p0), .val (.int p1), .val (.int p2), .val (.int kk), .val (.ref bb_32), .val (.int rr), .val (.int pp), .val (.int (f_ccp bb_32 v_HUNTER v_BLACKSMITH)), .unset, .unset] [(.int kk)])) _
      refine XS.iconst X35.here hx rfl (hb hby at_40) ?_
      by_cases hc41_38 : kk = (2 : Int32)
      case pos =>
        rw [(if_pos hc41_38 : (if kk = (2 : Int32) then (1 : Int32) else (if kk = (4 : Int32) then (1 : Int32) else (0 : Int32))) = (1 : Int32))] at kt
        show Steps p.tables e below (T35.setTop (mkF m 41 #[.val (.int p0), .val (.int p1), .val (.int p2), .val (.int kk), .val (.ref bb_32), .val (.int rr), .val (.int pp), .val (.int (f_ccp bb_32 v_HUNTER v_BLACKSMITH)), .unset, .unset] [(.int (2 : Int32)), (.int kk)])) _
        refine XS.icmpYes X35.here hx rfl (pc0 := 41) (pc' := 49) rfl (hb hby at_41) rfl (XT.ii_eq_t hc41_38) (by decide) (by decide) ?_
        show Steps p.tables e below (T35.setTop (mkF m 49 #[.val (.int p0), .val (.int p1), .val (.int p2), .val (.int kk), .val (.ref bb_32), .val (.int rr), .val (.int pp), .val (.int (f_ccp bb_32 v_HUNTER v_BLACKSMITH)), .unset, .unset] [])) _
        refine XS.iconst X35.here hx rfl (hb hby at_49) ?_
        show Steps p.tables e below (T35.setTop (mkF m 50 #[.val (.int p0), .val (.int p1), .val (.int p2), .val (.int kk), .val (.ref bb_32), .val (.int rr), .val (.int pp), .val (.int (f_ccp bb_32 v_HUNTER v_BLACKSMITH)), .unset, .unset] [(.int (1 : Int32))])) _
        refine XS.goto X35.here hx rfl (pc0 := 50) (pc' := 54) rfl (hb hby at_50) (by decide) (by decide) ?_
        exact kt
      case neg =>
        rw [(if_neg hc41_38 : (if kk = (2 : Int32) then (1 : Int32) else (if kk = (4 : Int32) then (1 : Int32) else (0 : Int32))) = (if kk = (4 : Int32) then (1 : Int32) else (0 : Int32)))] at kt
        show Steps p.tables e below (T35.setTop (mkF m 41 #[.val (.int p0), .val (.int p1), .val (.int p2), .val (.int kk), .val (.ref bb_32), .val (.int rr), .val (.int pp), .val (.int (f_ccp bb_32 v_HUNTER v_BLACKSMITH)), .unset, .unset] [(.int (2 : Int32)), (.int kk)])) _
        refine XS.icmpNo X35.here hx rfl (hb hby at_41) rfl (XT.ii_eq_f hc41_38) ?_
        show Steps p.tables e below (T35.setTop (mkF m 44 #[.val (.int p0), .val (.int p1), .val (.int p2), .val (.int kk), .val (.ref bb_32), .val (.int rr), .val (.int pp), .val (.int (f_ccp bb_32 v_HUNTER v_BLACKSMITH)), .unset, .unset] [])) _
        refine XS.iloadN X35.here hx rfl (hb hby at_44) rfl ?_
        show Steps p.tables e below (T35.setTop (mkF m 45 #[.val (.int p0), .val (.int p1), .val (.int p2), .val (.int kk), .val (.ref bb_32), .val (.int rr), .val (.int pp), .val (.int (f_ccp bb_32 v_HUNTER v_BLACKSMITH)), .unset, .unset] [(.int kk)])) _
        refine XS.iconst X35.here hx rfl (hb hby at_45) ?_
        by_cases hc46_39 : kk = (4 : Int32)
        case pos =>
          rw [(if_pos hc46_39 : (if kk = (4 : Int32) then (1 : Int32) else (0 : Int32)) = (1 : Int32))] at kt
          show Steps p.tables e below (T35.setTop (mkF m 46 #[.val (.int p0), .val (.int p1), .val (.int p2), .val (.int kk), .val (.ref bb_32), .val (.int rr), .val (.int pp), .val (.int (f_ccp bb_32 v_HUNTER v_BLACKSMITH)), .unset, .unset] [(.int (4 : Int32)), (.int kk)])) _
          refine XS.icmpNo X35.here hx rfl (hb hby at_46) rfl (XT.ii_ne_f hc46_39) ?_
          show Steps p.tables e below (T35.setTop (mkF m 49 #[.val (.int p0), .val (.int p1), .val (.int p2), .val (.int kk), .val (.ref bb_32), .val (.int rr), .val (.int pp), .val (.int (f_ccp bb_32 v_HUNTER v_BLACKSMITH)), .unset, .unset] [])) _
          refine XS.iconst X35.here hx rfl (hb hby at_49) ?_
          show Steps p.tables e below (T35.setTop (mkF m 50 #[.val (.int p0), .val (.int p1), .val (.int p2), .val (.int kk), .val (.ref bb_32), .val (.int rr), .val (.int pp), .val (.int (f_ccp bb_32 v_HUNTER v_BLACKSMITH)), .unset, .unset] [(.int (1 : Int32))])) _
          refine XS.goto X35.here hx rfl (pc0 := 50) (pc' := 54) rfl (hb hby at_50) (by decide) (by decide) ?_
          exact kt
        case neg =>
          rw [(if_neg hc46_39 : (if kk = (4 : Int32) then (1 : Int32) else (0 : Int32)) = (0 : Int32))] at kt
          show Steps p.tables e below (T35.setTop (mkF m 46 #[.val (.int p0), .val (.int p1), .val (.int p2), .val (.int kk), .val (.ref bb_32), .val (.int rr), .val (.int pp), .val (.int (f_ccp bb_32 v_HUNTER v_BLACKSMITH)), .unset, .unset] [(.int (4 : Int32)), (.int kk)])) _
          refine XS.icmpYes X35.here hx rfl (pc0 := 46) (pc' := 53) rfl (hb hby at_46) rfl (XT.ii_ne_t hc46_39) (by decide) (by decide) ?_
          show Steps p.tables e below (T35.setTop (mkF m 53 #[.val (.int p0), .val (.int p1), .val (.int p2), .val (.int kk), .val (.ref bb_32), .val (.int rr), .val (.int pp), .val (.int (f_ccp bb_32 v_HUNTER v_BLACKSMITH)), .unset, .unset] [])) _
          refine XS.iconst X35.here hx rfl (hb hby at_53) ?_
          exact kt
  obtain ⟨cq41, kq41, q41a, q41b, q41c⟩ := isOf hZ e35 f32_0
  obtain ⟨_, _, ⟨T41, L41, k41, n41⟩, -, X41, ⟨Lc41, hQ41, l41, y41, z41⟩, st41⟩ := X35.virtualBack hx (y := (⟨"com/example/runehall/runehall/tavern/DwarfClass", "value", "(II)I"⟩ : MethodName)) (z := (⟨"com/example/runehall/runehall/tavern/DwarfClass", "value", "(II)I"⟩ : MethodName)) hown (mvT hZ (hw _ (List.mem_of_getElem? (i := 18) rfl))) (mvT hZ (hw _ (List.mem_of_getElem? (i := 19) rfl))) (notFace_of_selects (args := #[]) (mvT hZ (hw _ (List.mem_of_getElem? (i := 21) rfl)))) (mvT hZ (hw _ (List.mem_of_getElem? (i := 21) rfl))) (mvT hZ (hw _ (List.mem_of_getElem? (i := 20) rfl))) (by decide) (backOf (W := 0) (rm3 l Z a0 hw [] bb_32 rr pp kk h0 n0 Z0 (by rw [hd_kk]; exact own_mod p0) (by rw [hd_rr]; exact ⟨by have := own_r p1; omega, (own_r p1).2⟩) (by rw [hd_pp]; exact ⟨(own_p p2).1, by have := own_p p2; omega⟩) f32_0 f32_1) hZ (hw _ (List.mem_of_getElem? (i := 22) rfl)) (hw _ (List.mem_of_getElem? (i := 6) rfl)) (by decide) (by decide)) q41a q41c (g := (mkF m 62 #[.val (.int p0), .val (.int p1), .val (.int p2), .val (.int kk), .val (.ref bb_32), .val (.int rr), .val (.int pp), .val (.int (f_ccp bb_32 v_HUNTER v_BLACKSMITH)), .val (.int (if kk = 0 then (1 : Int32) else (if kk = (2 : Int32) then (1 : Int32) else (if kk = (4 : Int32) then (1 : Int32) else (0 : Int32))))), .unset] [(.int pp), (.int rr), (.ref bb_32)])) rfl (by rw [hml]; rfl) (Steps.refl _) (argsL := [(.int rr), (.int pp)]) (rest := []) (lenOf pd__II_I rfl) rfl (by show 2 * 0 + _ ≤ _; exact Nat.le_of_eq rfl) (hb hby at_62) (fun _ _ => ⟨rfl, e35, (by decide : 0 + 0 ≤ _), (by decide : 0 + 0 ≤ _)⟩)
  dsimp only [Pt.U, Pt.locs, Pt.cells, Pt.slots] at X41 l41 y41 z41 st41 hQ41
  subst l41 y41 z41
  obtain ⟨rfl, Nq41, e41⟩ := hQ41
  have N41 := Fr.app N35 Nq41
  obtain ⟨cq42, kq42, q42a, q42b, q42c⟩ := isOf hZ e41 f32_0
  obtain ⟨_, _, ⟨T42, L42, k42, n42⟩, -, X42, ⟨Lc42, hQ42, l42, y42, z42⟩, st42⟩ := X41.virtualBack hx (y := (⟨"com/example/runehall/runehall/tavern/DwarfClass", "value", "(II)I"⟩ : MethodName)) (z := (⟨"com/example/runehall/runehall/tavern/DwarfClass", "value", "(II)I"⟩ : MethodName)) hown (mvT hZ (hw _ (List.mem_of_getElem? (i := 18) rfl))) (mvT hZ (hw _ (List.mem_of_getElem? (i := 19) rfl))) (notFace_of_selects (args := #[]) (mvT hZ (hw _ (List.mem_of_getElem? (i := 21) rfl)))) (mvT hZ (hw _ (List.mem_of_getElem? (i := 21) rfl))) (mvT hZ (hw _ (List.mem_of_getElem? (i := 20) rfl))) (by decide) (backOf (W := 1) (rm3 l Z a0 hw [] bb_32 rr (pp + (1 : Int32)) kk h0 n0 Z0 (by rw [hd_kk]; exact own_mod p0) (by rw [hd_rr]; exact ⟨by have := own_r p1; omega, (own_r p1).2⟩) (by rw [own_p1 (by rw [hd_pp]; exact own_p p2), hd_pp]; have := own_p p2; omega) f32_0 f32_1) hZ (hw _ (List.mem_of_getElem? (i := 22) rfl)) (hw _ (List.mem_of_getElem? (i := 6) rfl)) (by decide) (by decide)) q42a q42c (g := (mkF m 73 #[.val (.int p0), .val (.int p1), .val (.int p2), .val (.int kk), .val (.ref bb_32), .val (.int rr), .val (.int pp), .val (.int (f_ccp bb_32 v_HUNTER v_BLACKSMITH)), .val (.int (if kk = 0 then (1 : Int32) else (if kk = (2 : Int32) then (1 : Int32) else (if kk = (4 : Int32) then (1 : Int32) else (0 : Int32))))), .unset] [(.int (pp + (1 : Int32))), (.int rr), (.ref bb_32), (.int (f_val rr pp kk))])) rfl (by rw [hml]; rfl) (Steps.refl _) (argsL := [(.int rr), (.int (pp + (1 : Int32)))]) (rest := [(.int (f_val rr pp kk))]) (lenOf pd__II_I rfl) rfl (by show 2 * 0 + _ ≤ _; exact Nat.le_of_eq rfl) (hb hby at_73) (fun _ _ => ⟨rfl, e41, (by decide : 0 + 0 ≤ _), (by decide : 0 + 0 ≤ _)⟩)
  dsimp only [Pt.U, Pt.locs, Pt.cells, Pt.slots] at X42 l42 y42 z42 st42 hQ42
  subst l42 y42 z42
  obtain ⟨rfl, Nq42, e42⟩ := hQ42
  have N42 := Fr.app N41 Nq42
  have S43 : ∀ t, Steps p.tables e below (T42.setTop (mkF m 76 #[.val (.int p0), .val (.int p1), .val (.int p2), .val (.int kk), .val (.ref bb_32), .val (.int rr), .val (.int pp), .val (.int (f_ccp bb_32 v_HUNTER v_BLACKSMITH)), .val (.int (if kk = 0 then (1 : Int32) else (if kk = (2 : Int32) then (1 : Int32) else (if kk = (4 : Int32) then (1 : Int32) else (0 : Int32))))), .unset] [(.int (f_val rr (pp + (1 : Int32)) kk)), (.int (f_val rr pp kk))])) t → Steps p.tables e below (s₁.setTop (entryFrame m #[(.int p0), (.int p1), (.int p2)] maxLocals)) t := by
    intro t kt
    refine S40 _ ?_
    show Steps p.tables e below (T35.setTop (mkF m 54 #[.val (.int p0), .val (.int p1), .val (.int p2), .val (.int kk), .val (.ref bb_32), .val (.int rr), .val (.int pp), .val (.int (f_ccp bb_32 v_HUNTER v_BLACKSMITH)), .unset, .unset] [(.int (if kk = 0 then (1 : Int32) else (if kk = (2 : Int32) then (1 : Int32) else (if kk = (4 : Int32) then (1 : Int32) else (0 : Int32)))))])) _
    refine XS.istore X35.here hx rfl (hb hby at_54) rfl (l' := #[.val (.int p0), .val (.int p1), .val (.int p2), .val (.int kk), .val (.ref bb_32), .val (.int rr), .val (.int pp), .val (.int (f_ccp bb_32 v_HUNTER v_BLACKSMITH)), .val (.int (if kk = 0 then (1 : Int32) else (if kk = (2 : Int32) then (1 : Int32) else (if kk = (4 : Int32) then (1 : Int32) else (0 : Int32))))), .unset]) rfl ?_
    show Steps p.tables e below (T35.setTop (mkF m 56 #[.val (.int p0), .val (.int p1), .val (.int p2), .val (.int kk), .val (.ref bb_32), .val (.int rr), .val (.int pp), .val (.int (f_ccp bb_32 v_HUNTER v_BLACKSMITH)), .val (.int (if kk = 0 then (1 : Int32) else (if kk = (2 : Int32) then (1 : Int32) else (if kk = (4 : Int32) then (1 : Int32) else (0 : Int32))))), .unset] [])) _
    refine XS.aload X35.here hx rfl (hb hby at_56) rfl rfl ?_
    show Steps p.tables e below (T35.setTop (mkF m 58 #[.val (.int p0), .val (.int p1), .val (.int p2), .val (.int kk), .val (.ref bb_32), .val (.int rr), .val (.int pp), .val (.int (f_ccp bb_32 v_HUNTER v_BLACKSMITH)), .val (.int (if kk = 0 then (1 : Int32) else (if kk = (2 : Int32) then (1 : Int32) else (if kk = (4 : Int32) then (1 : Int32) else (0 : Int32))))), .unset] [(.ref bb_32)])) _
    refine XS.iload X35.here hx rfl (hb hby at_58) rfl ?_
    show Steps p.tables e below (T35.setTop (mkF m 60 #[.val (.int p0), .val (.int p1), .val (.int p2), .val (.int kk), .val (.ref bb_32), .val (.int rr), .val (.int pp), .val (.int (f_ccp bb_32 v_HUNTER v_BLACKSMITH)), .val (.int (if kk = 0 then (1 : Int32) else (if kk = (2 : Int32) then (1 : Int32) else (if kk = (4 : Int32) then (1 : Int32) else (0 : Int32))))), .unset] [(.int rr), (.ref bb_32)])) _
    refine XS.iload X35.here hx rfl (hb hby at_60) rfl ?_
    show Steps p.tables e below (T35.setTop (mkF m 62 #[.val (.int p0), .val (.int p1), .val (.int p2), .val (.int kk), .val (.ref bb_32), .val (.int rr), .val (.int pp), .val (.int (f_ccp bb_32 v_HUNTER v_BLACKSMITH)), .val (.int (if kk = 0 then (1 : Int32) else (if kk = (2 : Int32) then (1 : Int32) else (if kk = (4 : Int32) then (1 : Int32) else (0 : Int32))))), .unset] [(.int pp), (.int rr), (.ref bb_32)])) _
    refine st41.trans ?_
    show Steps p.tables e below (T41.setTop (mkF m 65 #[.val (.int p0), .val (.int p1), .val (.int p2), .val (.int kk), .val (.ref bb_32), .val (.int rr), .val (.int pp), .val (.int (f_ccp bb_32 v_HUNTER v_BLACKSMITH)), .val (.int (if kk = 0 then (1 : Int32) else (if kk = (2 : Int32) then (1 : Int32) else (if kk = (4 : Int32) then (1 : Int32) else (0 : Int32))))), .unset] [(.int (f_val rr pp kk))])) _
    refine XS.aload X41.here hx rfl (hb hby at_65) rfl rfl ?_
    show Steps p.tables e below (T41.setTop (mkF m 67 #[.val (.int p0), .val (.int p1), .val (.int p2), .val (.int kk), .val (.ref bb_32), .val (.int rr), .val (.int pp), .val (.int (f_ccp bb_32 v_HUNTER v_BLACKSMITH)), .val (.int (if kk = 0 then (1 : Int32) else (if kk = (2 : Int32) then (1 : Int32) else (if kk = (4 : Int32) then (1 : Int32) else (0 : Int32))))), .unset] [(.ref bb_32), (.int (f_val rr pp kk))])) _
    refine XS.iload X41.here hx rfl (hb hby at_67) rfl ?_
    show Steps p.tables e below (T41.setTop (mkF m 69 #[.val (.int p0), .val (.int p1), .val (.int p2), .val (.int kk), .val (.ref bb_32), .val (.int rr), .val (.int pp), .val (.int (f_ccp bb_32 v_HUNTER v_BLACKSMITH)), .val (.int (if kk = 0 then (1 : Int32) else (if kk = (2 : Int32) then (1 : Int32) else (if kk = (4 : Int32) then (1 : Int32) else (0 : Int32))))), .unset] [(.int rr), (.ref bb_32), (.int (f_val rr pp kk))])) _
    refine XS.iload X41.here hx rfl (hb hby at_69) rfl ?_
    show Steps p.tables e below (T41.setTop (mkF m 71 #[.val (.int p0), .val (.int p1), .val (.int p2), .val (.int kk), .val (.ref bb_32), .val (.int rr), .val (.int pp), .val (.int (f_ccp bb_32 v_HUNTER v_BLACKSMITH)), .val (.int (if kk = 0 then (1 : Int32) else (if kk = (2 : Int32) then (1 : Int32) else (if kk = (4 : Int32) then (1 : Int32) else (0 : Int32))))), .unset] [(.int pp), (.int rr), (.ref bb_32), (.int (f_val rr pp kk))])) _
    refine XS.iconst X41.here hx rfl (hb hby at_71) ?_
    show Steps p.tables e below (T41.setTop (mkF m 72 #[.val (.int p0), .val (.int p1), .val (.int p2), .val (.int kk), .val (.ref bb_32), .val (.int rr), .val (.int pp), .val (.int (f_ccp bb_32 v_HUNTER v_BLACKSMITH)), .val (.int (if kk = 0 then (1 : Int32) else (if kk = (2 : Int32) then (1 : Int32) else (if kk = (4 : Int32) then (1 : Int32) else (0 : Int32))))), .unset] [(.int (1 : Int32)), (.int pp), (.int rr), (.ref bb_32), (.int (f_val rr pp kk))])) _
    refine XS.iadd X41.here hx rfl (hb hby at_72) rfl ?_
    show Steps p.tables e below (T41.setTop (mkF m 73 #[.val (.int p0), .val (.int p1), .val (.int p2), .val (.int kk), .val (.ref bb_32), .val (.int rr), .val (.int pp), .val (.int (f_ccp bb_32 v_HUNTER v_BLACKSMITH)), .val (.int (if kk = 0 then (1 : Int32) else (if kk = (2 : Int32) then (1 : Int32) else (if kk = (4 : Int32) then (1 : Int32) else (0 : Int32))))), .unset] [(.int (pp + (1 : Int32))), (.int rr), (.ref bb_32), (.int (f_val rr pp kk))])) _
    refine st42.trans ?_
    exact kt
  have S45 : ∀ t, Steps p.tables e below (T42.setTop (mkF m 84 #[.val (.int p0), .val (.int p1), .val (.int p2), .val (.int kk), .val (.ref bb_32), .val (.int rr), .val (.int pp), .val (.int (f_ccp bb_32 v_HUNTER v_BLACKSMITH)), .val (.int (if kk = 0 then (1 : Int32) else (if kk = (2 : Int32) then (1 : Int32) else (if kk = (4 : Int32) then (1 : Int32) else (0 : Int32))))), .unset] [(.int (if (f_val rr pp kk) = (f_val rr (pp + (1 : Int32)) kk) then (0 : Int32) else (1 : Int32)))])) t → Steps p.tables e below (s₁.setTop (entryFrame m #[(.int p0), (.int p1), (.int p2)] maxLocals)) t := by
    intro t kt
    refine S43 _ ?_
    by_cases hc76_44 : (f_val rr pp kk) = (f_val rr (pp + (1 : Int32)) kk)
    case pos =>
      rw [(if_pos hc76_44 : (if (f_val rr pp kk) = (f_val rr (pp + (1 : Int32)) kk) then (0 : Int32) else (1 : Int32)) = (0 : Int32))] at kt
      show Steps p.tables e below (T42.setTop (mkF m 76 #[.val (.int p0), .val (.int p1), .val (.int p2), .val (.int kk), .val (.ref bb_32), .val (.int rr), .val (.int pp), .val (.int (f_ccp bb_32 v_HUNTER v_BLACKSMITH)), .val (.int (if kk = 0 then (1 : Int32) else (if kk = (2 : Int32) then (1 : Int32) else (if kk = (4 : Int32) then (1 : Int32) else (0 : Int32))))), .unset] [(.int (f_val rr (pp + (1 : Int32)) kk)), (.int (f_val rr pp kk))])) _
      refine XS.icmpYes X42.here hx rfl (pc0 := 76) (pc' := 83) rfl (hb hby at_76) rfl (XT.ii_eq_t hc76_44) (by decide) (by decide) ?_
      show Steps p.tables e below (T42.setTop (mkF m 83 #[.val (.int p0), .val (.int p1), .val (.int p2), .val (.int kk), .val (.ref bb_32), .val (.int rr), .val (.int pp), .val (.int (f_ccp bb_32 v_HUNTER v_BLACKSMITH)), .val (.int (if kk = 0 then (1 : Int32) else (if kk = (2 : Int32) then (1 : Int32) else (if kk = (4 : Int32) then (1 : Int32) else (0 : Int32))))), .unset] [])) _
      refine XS.iconst X42.here hx rfl (hb hby at_83) ?_
      exact kt
    case neg =>
      rw [(if_neg hc76_44 : (if (f_val rr pp kk) = (f_val rr (pp + (1 : Int32)) kk) then (0 : Int32) else (1 : Int32)) = (1 : Int32))] at kt
      show Steps p.tables e below (T42.setTop (mkF m 76 #[.val (.int p0), .val (.int p1), .val (.int p2), .val (.int kk), .val (.ref bb_32), .val (.int rr), .val (.int pp), .val (.int (f_ccp bb_32 v_HUNTER v_BLACKSMITH)), .val (.int (if kk = 0 then (1 : Int32) else (if kk = (2 : Int32) then (1 : Int32) else (if kk = (4 : Int32) then (1 : Int32) else (0 : Int32))))), .unset] [(.int (f_val rr (pp + (1 : Int32)) kk)), (.int (f_val rr pp kk))])) _
      refine XS.icmpNo X42.here hx rfl (hb hby at_76) rfl (XT.ii_eq_f hc76_44) ?_
      show Steps p.tables e below (T42.setTop (mkF m 79 #[.val (.int p0), .val (.int p1), .val (.int p2), .val (.int kk), .val (.ref bb_32), .val (.int rr), .val (.int pp), .val (.int (f_ccp bb_32 v_HUNTER v_BLACKSMITH)), .val (.int (if kk = 0 then (1 : Int32) else (if kk = (2 : Int32) then (1 : Int32) else (if kk = (4 : Int32) then (1 : Int32) else (0 : Int32))))), .unset] [])) _
      refine XS.iconst X42.here hx rfl (hb hby at_79) ?_
      show Steps p.tables e below (T42.setTop (mkF m 80 #[.val (.int p0), .val (.int p1), .val (.int p2), .val (.int kk), .val (.ref bb_32), .val (.int rr), .val (.int pp), .val (.int (f_ccp bb_32 v_HUNTER v_BLACKSMITH)), .val (.int (if kk = 0 then (1 : Int32) else (if kk = (2 : Int32) then (1 : Int32) else (if kk = (4 : Int32) then (1 : Int32) else (0 : Int32))))), .unset] [(.int (1 : Int32))])) _
      refine XS.goto X42.here hx rfl (pc0 := 80) (pc' := 84) rfl (hb hby at_80) (by decide) (by decide) ?_
      exact kt
  obtain ⟨fs, hrT, hrunT, hendT, hWT, hsameT⟩ := X42.leave (v := some (.int (1 : Int32))) (fun h => by rw [Bd.returns] at h; cases h)
  refine ⟨_, _, S45 _ ?_, hrunT, hendT, _, _, rfl, ?_, ⟨_, rfl⟩, hWT, hsameT.mono (by decide) (by decide)⟩
  · show Steps p.tables e below (T42.setTop (mkF m 84 #[.val (.int p0), .val (.int p1), .val (.int p2), .val (.int kk), .val (.ref bb_32), .val (.int rr), .val (.int pp), .val (.int (f_ccp bb_32 v_HUNTER v_BLACKSMITH)), .val (.int (if kk = 0 then (1 : Int32) else (if kk = (2 : Int32) then (1 : Int32) else (if kk = (4 : Int32) then (1 : Int32) else (0 : Int32))))), .unset] [(.int (if (f_val rr pp kk) = (f_val rr (pp + (1 : Int32)) kk) then (0 : Int32) else (1 : Int32)))])) _
    refine XS.istore X42.here hx rfl (hb hby at_84) rfl (l' := #[.val (.int p0), .val (.int p1), .val (.int p2), .val (.int kk), .val (.ref bb_32), .val (.int rr), .val (.int pp), .val (.int (f_ccp bb_32 v_HUNTER v_BLACKSMITH)), .val (.int (if kk = 0 then (1 : Int32) else (if kk = (2 : Int32) then (1 : Int32) else (if kk = (4 : Int32) then (1 : Int32) else (0 : Int32))))), .val (.int (if (f_val rr pp kk) = (f_val rr (pp + (1 : Int32)) kk) then (0 : Int32) else (1 : Int32)))]) rfl ?_
    show Steps p.tables e below (T42.setTop (mkF m 86 #[.val (.int p0), .val (.int p1), .val (.int p2), .val (.int kk), .val (.ref bb_32), .val (.int rr), .val (.int pp), .val (.int (f_ccp bb_32 v_HUNTER v_BLACKSMITH)), .val (.int (if kk = 0 then (1 : Int32) else (if kk = (2 : Int32) then (1 : Int32) else (if kk = (4 : Int32) then (1 : Int32) else (0 : Int32))))), .val (.int (if (f_val rr pp kk) = (f_val rr (pp + (1 : Int32)) kk) then (0 : Int32) else (1 : Int32)))] [])) _
    refine XS.iload X42.here hx rfl (hb hby at_86) rfl ?_
    show Steps p.tables e below (T42.setTop (mkF m 88 #[.val (.int p0), .val (.int p1), .val (.int p2), .val (.int kk), .val (.ref bb_32), .val (.int rr), .val (.int pp), .val (.int (f_ccp bb_32 v_HUNTER v_BLACKSMITH)), .val (.int (if kk = 0 then (1 : Int32) else (if kk = (2 : Int32) then (1 : Int32) else (if kk = (4 : Int32) then (1 : Int32) else (0 : Int32))))), .val (.int (if (f_val rr pp kk) = (f_val rr (pp + (1 : Int32)) kk) then (0 : Int32) else (1 : Int32)))] [(.int (f_ccp bb_32 v_HUNTER v_BLACKSMITH))])) _
    refine XS.iload X42.here hx rfl (hb hby at_88) rfl ?_
    show Steps p.tables e below (T42.setTop (mkF m 90 #[.val (.int p0), .val (.int p1), .val (.int p2), .val (.int kk), .val (.ref bb_32), .val (.int rr), .val (.int pp), .val (.int (f_ccp bb_32 v_HUNTER v_BLACKSMITH)), .val (.int (if kk = 0 then (1 : Int32) else (if kk = (2 : Int32) then (1 : Int32) else (if kk = (4 : Int32) then (1 : Int32) else (0 : Int32))))), .val (.int (if (f_val rr pp kk) = (f_val rr (pp + (1 : Int32)) kk) then (0 : Int32) else (1 : Int32)))] [(.int (if kk = 0 then (1 : Int32) else (if kk = (2 : Int32) then (1 : Int32) else (if kk = (4 : Int32) then (1 : Int32) else (0 : Int32))))), (.int (f_ccp bb_32 v_HUNTER v_BLACKSMITH))])) _
    refine XS.icmpNo X42.here hx rfl (hb hby at_90) rfl (XT.ii_ne_f (own_A (by rw [hd_kk]; exact own_mod p0) f32_1 Fv_HUNTER_ordinal Fv_BLACKSMITH_ordinal f32_2 f32_3)) ?_
    show Steps p.tables e below (T42.setTop (mkF m 93 #[.val (.int p0), .val (.int p1), .val (.int p2), .val (.int kk), .val (.ref bb_32), .val (.int rr), .val (.int pp), .val (.int (f_ccp bb_32 v_HUNTER v_BLACKSMITH)), .val (.int (if kk = 0 then (1 : Int32) else (if kk = (2 : Int32) then (1 : Int32) else (if kk = (4 : Int32) then (1 : Int32) else (0 : Int32))))), .val (.int (if (f_val rr pp kk) = (f_val rr (pp + (1 : Int32)) kk) then (0 : Int32) else (1 : Int32)))] [])) _
    refine XS.iload X42.here hx rfl (hb hby at_93) rfl ?_
    show Steps p.tables e below (T42.setTop (mkF m 95 #[.val (.int p0), .val (.int p1), .val (.int p2), .val (.int kk), .val (.ref bb_32), .val (.int rr), .val (.int pp), .val (.int (f_ccp bb_32 v_HUNTER v_BLACKSMITH)), .val (.int (if kk = 0 then (1 : Int32) else (if kk = (2 : Int32) then (1 : Int32) else (if kk = (4 : Int32) then (1 : Int32) else (0 : Int32))))), .val (.int (if (f_val rr pp kk) = (f_val rr (pp + (1 : Int32)) kk) then (0 : Int32) else (1 : Int32)))] [(.int (f_ccp bb_32 v_HUNTER v_BLACKSMITH))])) _
    refine XS.iload X42.here hx rfl (hb hby at_95) rfl ?_
    show Steps p.tables e below (T42.setTop (mkF m 97 #[.val (.int p0), .val (.int p1), .val (.int p2), .val (.int kk), .val (.ref bb_32), .val (.int rr), .val (.int pp), .val (.int (f_ccp bb_32 v_HUNTER v_BLACKSMITH)), .val (.int (if kk = 0 then (1 : Int32) else (if kk = (2 : Int32) then (1 : Int32) else (if kk = (4 : Int32) then (1 : Int32) else (0 : Int32))))), .val (.int (if (f_val rr pp kk) = (f_val rr (pp + (1 : Int32)) kk) then (0 : Int32) else (1 : Int32)))] [(.int (if (f_val rr pp kk) = (f_val rr (pp + (1 : Int32)) kk) then (0 : Int32) else (1 : Int32))), (.int (f_ccp bb_32 v_HUNTER v_BLACKSMITH))])) _
    refine XS.icmpNo X42.here hx rfl (hb hby at_97) rfl (XT.ii_ne_f ((own_A (by rw [hd_kk]; exact own_mod p0) f32_1 Fv_HUNTER_ordinal Fv_BLACKSMITH_ordinal f32_2 f32_3).trans (own_B (by rw [hd_kk]; exact own_mod p0) (by rw [hd_rr]; exact own_r p1) (by rw [hd_pp]; exact own_p p2)))) ?_
    show Steps p.tables e below (T42.setTop (mkF m 100 #[.val (.int p0), .val (.int p1), .val (.int p2), .val (.int kk), .val (.ref bb_32), .val (.int rr), .val (.int pp), .val (.int (f_ccp bb_32 v_HUNTER v_BLACKSMITH)), .val (.int (if kk = 0 then (1 : Int32) else (if kk = (2 : Int32) then (1 : Int32) else (if kk = (4 : Int32) then (1 : Int32) else (0 : Int32))))), .val (.int (if (f_val rr pp kk) = (f_val rr (pp + (1 : Int32)) kk) then (0 : Int32) else (1 : Int32)))] [])) _
    refine XS.iconst X42.here hx rfl (hb hby at_100) ?_
    show Steps p.tables e below (T42.setTop (mkF m 101 #[.val (.int p0), .val (.int p1), .val (.int p2), .val (.int kk), .val (.ref bb_32), .val (.int rr), .val (.int pp), .val (.int (f_ccp bb_32 v_HUNTER v_BLACKSMITH)), .val (.int (if kk = 0 then (1 : Int32) else (if kk = (2 : Int32) then (1 : Int32) else (if kk = (4 : Int32) then (1 : Int32) else (0 : Int32))))), .val (.int (if (f_val rr pp kk) = (f_val rr (pp + (1 : Int32)) kk) then (0 : Int32) else (1 : Int32)))] [(.int (1 : Int32))])) _
    refine XS.goto X42.here hx rfl (pc0 := 101) (pc' := 105) rfl (hb hby at_101) (by decide) (by decide) ?_
    show Steps p.tables e below (T42.setTop (mkF m 105 #[.val (.int p0), .val (.int p1), .val (.int p2), .val (.int kk), .val (.ref bb_32), .val (.int rr), .val (.int pp), .val (.int (f_ccp bb_32 v_HUNTER v_BLACKSMITH)), .val (.int (if kk = 0 then (1 : Int32) else (if kk = (2 : Int32) then (1 : Int32) else (if kk = (4 : Int32) then (1 : Int32) else (0 : Int32))))), .val (.int (if (f_val rr pp kk) = (f_val rr (pp + (1 : Int32)) kk) then (0 : Int32) else (1 : Int32)))] [(.int (1 : Int32))])) _
    exact retN X42 hx (t := .boolean) Bd.returns (by simp) (hb hby at_105) hrT
  · show Q0 Z p0 p1 p2 v_WARRIOR v_HUNTER v_BLACKSMITH v_EXPLORER v_MINER h0 n0 _ T42.heap _
    rw [e42]
    exact ⟨rfl, N42⟩
set_option maxRecDepth 65536 in
set_option maxHeartbeats 40000000 in
theorem comes_1 {Post : Tables → Env → Array Value → State → Outcome → State → Prop} (hpost : ∀ tb e args s v u, (limb_1_1.after args s (.returned v) u = true ∧ limb_1_2.after args s (.returned v) u = true ∧ True) → FrameEnd s (.returned v) u (Jvm.fieldLocs frame_1_writes args s ++ Jvm.arrayLocs frame_1_arrays args s ++ Jvm.staticLocs frame_1_statics s) 0 0 → Post tb e args s (.returned v) u) :
    ArmFor flags0 classFile x code maxLocals ret World_1 tables_1 room_1 Calls_1 rest_1 Pre_1 Post := by
  intro l hfl _ _ p e ha hc hk s m args below hf hA hF happ hP
  obtain ⟨hcalls, hrest, hpre⟩ := hP
  obtain ⟨-, -, -, hnamed, -, -, -, hat⟩ := (Spec.applies_iff hf).mp happ
  obtain ⟨hg, hn⟩ := and_e (Cond.before_iff.mp (show (Jvm.Cond.and given_1 narrow_1).before args s = true from hpre))
  obtain ⟨gc, gr0⟩ := and_e hg
  obtain ⟨ga0, gr1⟩ := and_e gr0
  obtain ⟨ga1, gr2⟩ := and_e gr1
  have ga2 := gr2
  obtain ⟨w0, w1, w2, rfl⟩ : ∃ w0 w1 w2 : Value, args = #[w0, w1, w2] := by
    have hs : args.size = 3 := by simpa [Cond.value, given_1] using gc
    obtain ⟨L⟩ := args
    match L, hs with
    | [w0, w1, w2], _ => exact ⟨w0, w1, w2, rfl⟩
  have hw := fun d (hd : d ∈ tables_1) => atoms_spec (ws := Jvm.Cond.code x code maxLocals ret :: tables_1) hat d (List.mem_cons_of_mem _ hd)
  have hfit : Fit s := fun {y c} hc i hi => by
    obtain ⟨ha, rfl⟩ := Array.getElem?_eq_some_iff.mp hc
    have q := List.all_eq_true.mp ((Array.all_eq_true_iff_forall_mem.mp hF) _ (Array.getElem_mem ha)) i (List.mem_range.mpr hi)
    simpa [Array.getElem?_eq_getElem hi] using q
  obtain ⟨i0, ei0⟩ := is_v ga0
  obtain rfl : w0 = (.int i0) := Option.some.inj ei0
  obtain ⟨i1, ei1⟩ := is_v ga1
  obtain rfl : w1 = (.int i1) := Option.some.inj ei1
  obtain ⟨i2, ei2⟩ := is_v ga2
  obtain rfl : w2 = (.int i2) := Option.some.inj ei2
  have nr0 := hn
  obtain ⟨nn0, nr1⟩ := and_e nr0
  obtain ⟨nn1, nr2⟩ := and_e nr1
  obtain ⟨nn2, nr3⟩ := and_e nr2
  obtain ⟨nn3, nr4⟩ := and_e nr3
  obtain ⟨nn4, nr5⟩ := and_e nr4
  obtain ⟨nn5, nr6⟩ := and_e nr5
  obtain ⟨nn6, nr7⟩ := and_e nr6
  obtain ⟨nn7, nr8⟩ := and_e nr7
  obtain ⟨nn8, nr9⟩ := and_e nr8
  have nn9 := nr9
  obtain ⟨v_WARRIOR, ev_WARRIOR⟩ := exa_v nn0
  have Ev_WARRIOR := Exa.start ev_WARRIOR nn0
  have Sv_WARRIOR := Sta.start ev_WARRIOR (Or.inr ⟨(hw _ (List.mem_of_getElem? (i := 6) rfl)), (hw _ (List.mem_of_getElem? (i := 7) rfl))⟩)
  obtain ⟨v_HUNTER, ev_HUNTER⟩ := exa_v nn1
  have Ev_HUNTER := Exa.start ev_HUNTER nn1
  have Sv_HUNTER := Sta.start ev_HUNTER (Or.inr ⟨(hw _ (List.mem_of_getElem? (i := 6) rfl)), (hw _ (List.mem_of_getElem? (i := 15) rfl))⟩)
  obtain ⟨v_BLACKSMITH, ev_BLACKSMITH⟩ := exa_v nn4
  have Ev_BLACKSMITH := Exa.start ev_BLACKSMITH nn4
  have Sv_BLACKSMITH := Sta.start ev_BLACKSMITH (Or.inr ⟨(hw _ (List.mem_of_getElem? (i := 6) rfl)), (hw _ (List.mem_of_getElem? (i := 17) rfl))⟩)
  obtain ⟨v_EXPLORER, ev_EXPLORER⟩ := exa_v nn6
  have Ev_EXPLORER := Exa.start ev_EXPLORER nn6
  have Sv_EXPLORER := Sta.start ev_EXPLORER (Or.inr ⟨(hw _ (List.mem_of_getElem? (i := 6) rfl)), (hw _ (List.mem_of_getElem? (i := 38) rfl))⟩)
  obtain ⟨v_MINER, ev_MINER⟩ := exa_v nn8
  have Ev_MINER := Exa.start ev_MINER nn8
  have Sv_MINER := Sta.start ev_MINER (Or.inr ⟨(hw _ (List.mem_of_getElem? (i := 6) rfl)), (hw _ (List.mem_of_getElem? (i := 46) rfl))⟩)
  have Fv_WARRIOR_ordinal := own_fld ev_WARRIOR (Term.int_eval _) (Or.inl ⟨_, rfl⟩) nn2
  have Fv_HUNTER_ordinal := own_fld ev_HUNTER (Term.int_eval _) (Or.inl ⟨_, rfl⟩) nn3
  have Fv_BLACKSMITH_ordinal := own_fld ev_BLACKSMITH (Term.int_eval _) (Or.inl ⟨_, rfl⟩) nn5
  have Fv_EXPLORER_ordinal := own_fld ev_EXPLORER (Term.int_eval _) (Or.inl ⟨_, rfl⟩) nn7
  have Fv_MINER_ordinal := own_fld ev_MINER (Term.int_eval _) (Or.inl ⟨_, rfl⟩) nn9
  obtain ⟨n, o, h1, h2, h3, _, L, rfl, ⟨rfl, N⟩, hq⟩ := rm0 l s _ hw tables_1 i0 i1 i2 v_WARRIOR v_HUNTER v_BLACKSMITH v_EXPLORER v_MINER s.heap s.heap.size (Nat.le_refl _) Sv_WARRIOR Ev_WARRIOR Sv_HUNTER Ev_HUNTER Sv_BLACKSMITH Ev_BLACKSMITH Sv_EXPLORER Ev_EXPLORER Sv_MINER Ev_MINER Fv_WARRIOR_ordinal Fv_HUNTER_ordinal Fv_BLACKSMITH_ordinal Fv_EXPLORER_ordinal Fv_MINER_ordinal p e ha hc hk s m _ below hf ((Spec.applies_iff_loose hf).mp happ).1 ⟨rfl, State.Warmed39.refl s, rfl⟩ trivial
  refine ⟨n, _, h1, h2, h3, hpost _ _ _ _ _ _ ⟨Cond.after_iff.mpr rfl, Cond.after_iff.mpr (eq_i res_at (Term.int_eval (1)) rfl), trivial⟩ ⟨hq.1, hq.2.1, (hq.2.2.sift fun y hy => Or.inr (N y hy)).mono (by decide) (by decide)⟩⟩
theorem main_1_1 : Claimed_1_1 := comes_1 fun _ _ _ _ _ _ h hF => ⟨h.1, hF⟩
theorem main_1_2 : Claimed_1_2 := comes_1 fun _ _ _ _ _ _ h hF => ⟨h.2.1, hF⟩
end Jvm.Pilot.@@N@@
namespace Jvm.Pilot.@@N@@
open Jvm Jvm.ClassFile Sem Op Lib Jvm.Free Jvm.Stand Jvm.Pilot.@@N@@.Jvm.D
/-! MADE BY PROGRAM (witnessworld.py) out of the Statement's table words and the real class files: 13 classes; the members and pool entries that the words name. The judged class is class 1, her method 2. -/
namespace start1
open Jvm.ClassFile
def u (s : String) : CpInfo := .utf8 (stringToUtf16 s)
/-- a pool by its gaps: so many unusable entries, then the entry; so many at the end -/
def gap : Nat → List CpInfo → List CpInfo
  | 0, r => r
  | n + 1, r => .unusable :: gap n r
def poolList (es : List (Nat × CpInfo)) (last : Nat) : List CpInfo := es.foldr (fun e r => gap e.1 (e.2 :: r)) (gap last [])
def pool (es : List (Nat × CpInfo)) (last : Nat) : Array CpInfo := ⟨poolList es last⟩
def fileOf (pool : Array CpInfo) (this : Nat) (attrs : Array Attribute := #[]) (ms : Array MethodInfo := #[]) (fl : Nat := 33) (sup : Nat := 0) (ifs : Array Nat := #[]) (fds : Array FieldInfo := #[]) : ClassFile where
  minorVersion := 0
  majorVersion := 65
  constantPool := pool
  accessFlags := fl
  thisClass := this
  superClass := sup
  interfaces := ifs
  fields := fds
  methods := ms
  attributes := attrs
def plain (name : String) (sup : Option ClassId) : Class where
  name := name
  kind := .ordinary
  loader := none
  accessFlags := 33
  super := sup
  interfaces := #[]
  cf := none
  fields := #[]
  methods := #[]
  instanceTypes := #[]
  staticTypes := #[]
  resolved := #[]
  callSites := []
  init := .initialized
  statics := none
  mirror := none

def pool0 : Array CpInfo := pool [(5, u "<init>"), (0, u "()V"), (1, .class_ 10), (1, u "java/lang/Object")] 113

def k0m0 : Method := { name := "<init>", desc := "()V", sig := { parameters := [], returnType := none }, accessFlags := 1, code := none }
/-- java/lang/Object -/
def k0 : Class := { plain "java/lang/Object" none with
  accessFlags := 33
  interfaces := #[]
  cf := some (fileOf pool0 8 #[] #[{ accessFlags := 1, nameIndex := 5, descriptorIndex := 6, attributes := #[] }] 33 0 #[] #[])
  fields := #[]
  methods := #[k0m0]
  instanceTypes := #[]
  staticTypes := #[]
  resolved := Array.replicate 124 none
  statics := none }

def pool1 : Array CpInfo := pool [(2, .class_ 4), (1, u "java/lang/Object"), (0, u "<init>"), (0, u "()V"), (0, .fieldref 8 9), (0, .class_ 10), (0, .nameAndType 11 12), (0, u "com/example/runehall/runehall/tavern/DwarfClass"), (0, u "WARRIOR"), (0, u "Lcom/example/runehall/runehall/tavern/DwarfClass;"), (0, .fieldref 8 14), (0, .nameAndType 15 12), (0, u "HUNTER"), (0, .fieldref 8 17), (0, .nameAndType 18 12), (0, u "MINER"), (0, .fieldref 8 20), (0, .nameAndType 21 12), (0, u "BLACKSMITH"), (0, .fieldref 8 23), (0, .nameAndType 24 12), (0, u "EXPLORER"), (0, .integer 2147483647), (0, .methodref 27 28), (0, .class_ 29), (0, .nameAndType 30 31), (0, u "com/example/runehall/runehall/tavern/DwarfClassCardsCarryPointsPinLaw"), (0, u "pick"), (0, u "(I)Lcom/example/runehall/runehall/tavern/DwarfClass;"), (0, .integer 65535), (0, .methodref 8 34), (0, .nameAndType 35 36), (0, u "cardsCarryPoints"), (0, u "()Z"), (0, .methodref 8 38), (0, .nameAndType 39 40), (0, u "value"), (0, u "(II)I"), (3, u "law"), (0, u "(III)Z")] 2

def k1m0 : Method := { name := "<init>", desc := "()V", sig := { parameters := [], returnType := none }, accessFlags := 1, code := none }
def k1c1 : Code := { maxStack := 2, maxLocals := 1, code := method_2_code, exceptionTable := #[], attributes := #[] }
def k1m1 : Method := { name := "pick", desc := "(I)Lcom/example/runehall/runehall/tavern/DwarfClass;", sig := { parameters := [.int], returnType := some (.object "com/example/runehall/runehall/tavern/DwarfClass") }, accessFlags := 10, code := some k1c1 }
def k1c2 : Code := { maxStack := 5, maxLocals := 10, code := code, exceptionTable := #[], attributes := #[] }
def k1m2 : Method := { name := "law", desc := "(III)Z", sig := { parameters := [.int, .int, .int], returnType := some .boolean }, accessFlags := 9, code := some k1c2 }
/-- com/example/runehall/runehall/tavern/DwarfClassCardsCarryPointsPinLaw -/
def k1 : Class := { plain "com/example/runehall/runehall/tavern/DwarfClassCardsCarryPointsPinLaw" (some 0) with
  accessFlags := 49
  interfaces := #[]
  cf := some (fileOf pool1 27 #[] #[{ accessFlags := 1, nameIndex := 5, descriptorIndex := 6, attributes := #[] }, { accessFlags := 10, nameIndex := 30, descriptorIndex := 31, attributes := #[] }, { accessFlags := 9, nameIndex := 44, descriptorIndex := 45, attributes := #[] }] 49 2 #[] #[])
  fields := #[]
  methods := #[k1m0, k1m1, k1m2]
  instanceTypes := #[]
  staticTypes := #[]
  resolved := Array.replicate 48 none
  statics := none }

def pool2 : Array CpInfo := pool [(1, .class_ 2), (0, u "java/lang/constant/Constable"), (0, .class_ 4), (0, u "java/lang/Object")] 6

/-- java/lang/constant/Constable -/
def k2 : Class := { plain "java/lang/constant/Constable" (some 0) with
  accessFlags := 1537
  interfaces := #[]
  cf := some (fileOf pool2 1 #[] #[] 1537 3 #[] #[])
  fields := #[]
  methods := #[]
  instanceTypes := #[]
  staticTypes := #[]
  resolved := Array.replicate 11 none
  statics := none }

def pool3 : Array CpInfo := pool [(1, .class_ 2), (0, u "java/lang/Comparable"), (0, .class_ 4), (0, u "java/lang/Object")] 7

/-- java/lang/Comparable -/
def k3 : Class := { plain "java/lang/Comparable" (some 0) with
  accessFlags := 1537
  interfaces := #[]
  cf := some (fileOf pool3 1 #[] #[] 1537 3 #[] #[])
  fields := #[]
  methods := #[]
  instanceTypes := #[]
  staticTypes := #[]
  resolved := Array.replicate 12 none
  statics := none }

def pool4 : Array CpInfo := pool [(1, .class_ 2), (0, u "java/io/Serializable"), (0, .class_ 4), (0, u "java/lang/Object")] 2

/-- java/io/Serializable -/
def k4 : Class := { plain "java/io/Serializable" (some 0) with
  accessFlags := 1537
  interfaces := #[]
  cf := some (fileOf pool4 1 #[] #[] 1537 3 #[] #[])
  fields := #[]
  methods := #[]
  instanceTypes := #[]
  staticTypes := #[]
  resolved := Array.replicate 7 none
  statics := none }

def pool5 : Array CpInfo := pool [(2, .class_ 4), (1, u "java/lang/Enum"), (0, u "name"), (0, u "Ljava/lang/String;"), (0, .fieldref 2 8), (0, .nameAndType 9 10), (0, u "ordinal"), (0, u "I"), (1, .class_ 14), (1, u "java/lang/Object"), (4, u "hash"), (86, .class_ 108), (1, u "java/lang/Enum$EnumDesc"), (2, .class_ 112), (0, u "java/lang/constant/Constable"), (0, .class_ 114), (0, u "java/lang/Comparable"), (0, .class_ 116), (0, u "java/io/Serializable"), (9, u "()I")] 77

def k5c0 : Code := { maxStack := 1, maxLocals := 1, code := jdk_37_method_2_code, exceptionTable := #[], attributes := #[] }
def k5m0 : Method := { name := "ordinal", desc := "()I", sig := { parameters := [], returnType := some .int }, accessFlags := 17, code := some k5c0 }
/-- java/lang/Enum -/
def k5 : Class := { plain "java/lang/Enum" (some 0) with
  accessFlags := 1057
  interfaces := #[2, 3, 4]
  cf := some (fileOf pool5 2 #[.nestMembers #[106]] #[{ accessFlags := 17, nameIndex := 9, descriptorIndex := 126, attributes := #[] }] 1057 12 #[111, 113, 115] #[{ accessFlags := 18, nameIndex := 5, descriptorIndex := 6, attributes := #[] }, { accessFlags := 18, nameIndex := 9, descriptorIndex := 10, attributes := #[] }, { accessFlags := 2, nameIndex := 19, descriptorIndex := 10, attributes := #[] }])
  fields := #[{ name := "name", type := (.object "java/lang/String"), accessFlags := 18, slot := 0, constantValue := 0 }, { name := "ordinal", type := .int, accessFlags := 18, slot := 1, constantValue := 0 }, { name := "hash", type := .int, accessFlags := 2, slot := 2, constantValue := 0 }]
  methods := #[k5m0]
  instanceTypes := #[(.object "java/lang/String"), .int, .int]
  staticTypes := #[]
  resolved := Array.replicate 204 none
  statics := none }

def pool6 : Array CpInfo := pool [(1, .class_ 2), (0, u "com/example/runehall/runehall/tavern/DwarfClass"), (2, u "WARRIOR"), (0, u "Lcom/example/runehall/runehall/tavern/DwarfClass;"), (0, .fieldref 1 8), (0, .nameAndType 9 6), (0, u "HUNTER"), (2, u "MINER"), (0, .fieldref 1 14), (0, .nameAndType 15 6), (0, u "BLACKSMITH"), (2, u "EXPLORER"), (2, u "$VALUES"), (0, u "[Lcom/example/runehall/runehall/tavern/DwarfClass;"), (6, .class_ 31), (1, u "java/lang/Enum"), (8, u "key"), (0, u "Ljava/lang/String;"), (2, u "cardLetter"), (0, u "C"), (29, .methodref 1 76), (0, .nameAndType 77 78), (0, u "ordinal"), (0, u "()I"), (5, .methodref 85 86), (0, .class_ 87), (0, .nameAndType 88 89), (0, u "java/lang/Math"), (0, u "multiplyExact"), (0, u "(II)I"), (0, .long 5), (1, .long 2), (1, .methodref 85 95), (0, .nameAndType 96 97), (0, u "toIntExact"), (0, u "(J)I"), (33, u "cardsCarryPoints"), (0, u "()Z"), (0, u "value")] 20

def k6c0 : Code := { maxStack := 2, maxLocals := 1, code := prog_16_method_7_code, exceptionTable := #[], attributes := #[] }
def k6m0 : Method := { name := "cardsCarryPoints", desc := "()Z", sig := { parameters := [], returnType := some .boolean }, accessFlags := 1, code := some k6c0 }
def k6c1 : Code := { maxStack := 6, maxLocals := 4, code := prog_16_method_8_code, exceptionTable := #[], attributes := #[] }
def k6m1 : Method := { name := "value", desc := "(II)I", sig := { parameters := [.int, .int], returnType := some .int }, accessFlags := 1, code := some k6c1 }
/-- com/example/runehall/runehall/tavern/DwarfClass -/
def k6 : Class := { plain "com/example/runehall/runehall/tavern/DwarfClass" (some 5) with
  accessFlags := 16433
  interfaces := #[]
  cf := some (fileOf pool6 1 #[] #[{ accessFlags := 1, nameIndex := 131, descriptorIndex := 132, attributes := #[] }, { accessFlags := 1, nameIndex := 133, descriptorIndex := 89, attributes := #[] }] 16433 29 #[] #[{ accessFlags := 16409, nameIndex := 5, descriptorIndex := 6, attributes := #[] }, { accessFlags := 16409, nameIndex := 9, descriptorIndex := 6, attributes := #[] }, { accessFlags := 16409, nameIndex := 12, descriptorIndex := 6, attributes := #[] }, { accessFlags := 16409, nameIndex := 15, descriptorIndex := 6, attributes := #[] }, { accessFlags := 16409, nameIndex := 18, descriptorIndex := 6, attributes := #[] }, { accessFlags := 18, nameIndex := 40, descriptorIndex := 41, attributes := #[] }, { accessFlags := 18, nameIndex := 44, descriptorIndex := 45, attributes := #[] }, { accessFlags := 4122, nameIndex := 21, descriptorIndex := 22, attributes := #[] }])
  fields := #[{ name := "WARRIOR", type := (.object "com/example/runehall/runehall/tavern/DwarfClass"), accessFlags := 16409, slot := 0, constantValue := 0 }, { name := "HUNTER", type := (.object "com/example/runehall/runehall/tavern/DwarfClass"), accessFlags := 16409, slot := 1, constantValue := 0 }, { name := "MINER", type := (.object "com/example/runehall/runehall/tavern/DwarfClass"), accessFlags := 16409, slot := 2, constantValue := 0 }, { name := "BLACKSMITH", type := (.object "com/example/runehall/runehall/tavern/DwarfClass"), accessFlags := 16409, slot := 3, constantValue := 0 }, { name := "EXPLORER", type := (.object "com/example/runehall/runehall/tavern/DwarfClass"), accessFlags := 16409, slot := 4, constantValue := 0 }, { name := "key", type := (.object "java/lang/String"), accessFlags := 18, slot := 3, constantValue := 0 }, { name := "cardLetter", type := .char, accessFlags := 18, slot := 4, constantValue := 0 }, { name := "$VALUES", type := (.array (.object "com/example/runehall/runehall/tavern/DwarfClass")), accessFlags := 4122, slot := 5, constantValue := 0 }]
  methods := #[k6m0, k6m1]
  instanceTypes := #[(.object "java/lang/String"), .int, .int, (.object "java/lang/String"), .char]
  staticTypes := #[(.object "com/example/runehall/runehall/tavern/DwarfClass"), (.object "com/example/runehall/runehall/tavern/DwarfClass"), (.object "com/example/runehall/runehall/tavern/DwarfClass"), (.object "com/example/runehall/runehall/tavern/DwarfClass"), (.object "com/example/runehall/runehall/tavern/DwarfClass"), (.array (.object "com/example/runehall/runehall/tavern/DwarfClass"))]
  resolved := Array.replicate 154 none
  statics := some 0 }

def pool7 : Array CpInfo := pool [(1, .class_ 2), (0, u "java/lang/Math"), (1, .class_ 6), (1, u "java/lang/Object"), (0, u "<init>"), (0, u "()V"), (89, .class_ 100), (1, u "java/lang/Math$RandomNumberGeneratorHolder"), (19, u "multiplyExact"), (51, u "negativeZeroFloatBits"), (0, u "J"), (2, u "negativeZeroDoubleBits"), (68, u "$assertionsDisabled"), (0, u "Z"), (88, u "(II)I"), (2, u "twoToTheDoubleScaleDown"), (0, u "D"), (4, u "twoToTheDoubleScaleUp"), (9, u "E"), (3, u "PI"), (2, u "TAU"), (2, u "DEGREES_TO_RADIANS"), (0, u "RADIANS_TO_DEGREES"), (39, u "toIntExact"), (0, u "(J)I")] 53

def k7m0 : Method := { name := "<init>", desc := "()V", sig := { parameters := [], returnType := none }, accessFlags := 2, code := none }
def k7c1 : Code := { maxStack := 4, maxLocals := 4, code := jdk_29_method_28_code, exceptionTable := #[], attributes := #[] }
def k7m1 : Method := { name := "multiplyExact", desc := "(II)I", sig := { parameters := [.int, .int], returnType := some .int }, accessFlags := 9, code := some k7c1 }
def k7c2 : Code := { maxStack := 4, maxLocals := 2, code := jdk_29_method_43_code, exceptionTable := #[], attributes := #[] }
def k7m2 : Method := { name := "toIntExact", desc := "(J)I", sig := { parameters := [.long], returnType := some .int }, accessFlags := 9, code := some k7c2 }
/-- java/lang/Math -/
def k7 : Class := { plain "java/lang/Math" (some 0) with
  accessFlags := 49
  interfaces := #[]
  cf := some (fileOf pool7 1 #[.nestMembers #[98]] #[{ accessFlags := 2, nameIndex := 7, descriptorIndex := 8, attributes := #[] }, { accessFlags := 9, nameIndex := 120, descriptorIndex := 335, attributes := #[] }, { accessFlags := 9, nameIndex := 405, descriptorIndex := 406, attributes := #[] }] 49 4 #[] #[{ accessFlags := 25, nameIndex := 354, descriptorIndex := 339, attributes := #[] }, { accessFlags := 25, nameIndex := 358, descriptorIndex := 339, attributes := #[] }, { accessFlags := 25, nameIndex := 361, descriptorIndex := 339, attributes := #[] }, { accessFlags := 26, nameIndex := 364, descriptorIndex := 339, attributes := #[] }, { accessFlags := 26, nameIndex := 365, descriptorIndex := 339, attributes := #[] }, { accessFlags := 26, nameIndex := 172, descriptorIndex := 173, attributes := #[] }, { accessFlags := 26, nameIndex := 176, descriptorIndex := 173, attributes := #[] }, { accessFlags := 8, nameIndex := 344, descriptorIndex := 339, attributes := #[] }, { accessFlags := 8, nameIndex := 338, descriptorIndex := 339, attributes := #[] }, { accessFlags := 4120, nameIndex := 245, descriptorIndex := 246, attributes := #[] }])
  fields := #[{ name := "E", type := .double, accessFlags := 25, slot := 0, constantValue := 0 }, { name := "PI", type := .double, accessFlags := 25, slot := 1, constantValue := 0 }, { name := "TAU", type := .double, accessFlags := 25, slot := 2, constantValue := 0 }, { name := "DEGREES_TO_RADIANS", type := .double, accessFlags := 26, slot := 3, constantValue := 0 }, { name := "RADIANS_TO_DEGREES", type := .double, accessFlags := 26, slot := 4, constantValue := 0 }, { name := "negativeZeroFloatBits", type := .long, accessFlags := 26, slot := 5, constantValue := 0 }, { name := "negativeZeroDoubleBits", type := .long, accessFlags := 26, slot := 6, constantValue := 0 }, { name := "twoToTheDoubleScaleUp", type := .double, accessFlags := 8, slot := 7, constantValue := 0 }, { name := "twoToTheDoubleScaleDown", type := .double, accessFlags := 8, slot := 8, constantValue := 0 }, { name := "$assertionsDisabled", type := .boolean, accessFlags := 4120, slot := 9, constantValue := 0 }]
  methods := #[k7m0, k7m1, k7m2]
  instanceTypes := #[]
  staticTypes := #[.double, .double, .double, .double, .double, .long, .long, .double, .double, .boolean]
  resolved := Array.replicate 460 none
  statics := none }

def pool8 : Array CpInfo := pool [(1, u "java/lang/Cloneable"), (0, .class_ 1), (0, u "java/lang/Object"), (0, .class_ 3)] 3

/-- java/lang/Cloneable -/
def k8 : Class := { plain "java/lang/Cloneable" (some 0) with
  accessFlags := 1537
  interfaces := #[]
  cf := some (fileOf pool8 2 #[] #[] 1537 4 #[] #[])
  fields := #[]
  methods := #[]
  instanceTypes := #[]
  staticTypes := #[]
  resolved := Array.replicate 8 none
  statics := none }

/-- the primitive byte -/
def k9 : Class := { plain "byte" none with kind := .primitive 'B', accessFlags := 0x411 }
/-- [B -/
def k10 : Class := { plain "[B" (some 0) with kind := .array 9 .byte, interfaces := #[8, 4], accessFlags := 1041 }

/-- the primitive int -/
def k11 : Class := { plain "int" none with kind := .primitive 'I', accessFlags := 0x411 }
/-- [I -/
def k12 : Class := { plain "[I" (some 0) with kind := .array 11 .int, interfaces := #[8, 4], accessFlags := 1041 }

def heap : Heap := #[{ cls := 6, slots := #[.ref 1, .ref 2, .ref 5, .ref 3, .ref 4, .null], vm := .statics 6 },
  { cls := 6, slots := #[.null, .int 0, .int 0, .null, .int 0], vm := .none },
  { cls := 6, slots := #[.null, .int 1, .int 0, .null, .int 0], vm := .none },
  { cls := 6, slots := #[.null, .int 3, .int 0, .null, .int 0], vm := .none },
  { cls := 6, slots := #[.null, .int 4, .int 0, .null, .int 0], vm := .none },
  { cls := 6, slots := #[.null, .int 2, .int 0, .null, .int 0], vm := .none }]
def classes : Array Class := #[k0, k1, k2, k3, k4, k5, k6, k7, k8, k9, k10, k11, k12]
def interned : List (Array UInt16 × Addr) := []
def slotsUsed : Nat := 31
def theMethod : MethodId := ⟨1, 2⟩
def args0 : Array Value := #[.int 77, .int 99, .int 3]
def aboutOver (below : List Frame) : State where
  vm := { classes := classes, interned := interned.toArray }
  heap := heap
  slotsUsed := slotsUsed
  threads := #[{ frames := .invoking theMethod args0 :: below }]
def below0 : List Frame := [.native { method := ⟨0, 0⟩, args := #[] }]
def about1 : State := aboutOver below0
def p0 : Program := .bare "" "" ""
def e0 : Env := launch0.env 0 0 0
theorem w_frames : about1.frames = Frame.invoking theMethod args0 :: below0 := rfl
set_option maxRecDepth 65536 in
theorem w_args : argsFit about1.vm theMethod args0 = true := by decide +kernel
set_option maxRecDepth 65536 in
theorem w_heap : heapFits about1 = true := by decide +kernel
set_option maxRecDepth 65536 in
theorem w_runnable : about1.curStatus? = some .runnable := by decide +kernel
set_option maxRecDepth 65536 in
theorem w_alone : about1.alone = true := by decide +kernel
set_option maxRecDepth 65536 in
theorem w_named : about1.methodNamed? x = some theMethod := by decide +kernel
set_option maxRecDepth 65536 in
theorem w_hears : about1.hears theMethod below0 = true := by decide +kernel
set_option maxRecDepth 65536 in
theorem w_ripe : about1.ripe theMethod args0 below0 = true := by decide +kernel
theorem w_running : about1.status = .running := rfl
set_option maxRecDepth 65536 in
theorem w_room : about1.hasRoom e0.platform room_1 = true :=
  launch0.hasRoom_least _ room_1 (by decide +kernel) (by decide +kernel) (by decide +kernel) (by decide +kernel) (by decide +kernel) (by decide +kernel)
theorem allAtoms_all (ts : List Jvm.Cond) (a : Array Jvm.Value) (st : Jvm.State) : (allAtoms ts).before a st = ts.all (fun c => c.before a st) := by
  induction ts with
  | nil => rfl
  | cons c t ih =>
    show (Jvm.Cond.and c (allAtoms t)).before a st = _
    rw [Jvm.Cond.before_and, ih, List.all_cons]
def words1 : List Jvm.Cond := Jvm.Cond.code x code maxLocals ret :: tables_1
/-- a 'code' word, met by the world's own term for the bytes: nothing is compared byte by byte -/
theorem code_word {y : MethodName} {bytes : ByteArray} {mx : Nat} {rt : Option FieldType} {a : Array Value} {s : State} {m : MethodId} {meth : Method} {c : Code} (h1 : s.methodNamed? y = some m) (h2 : s.vm.method? m = some meth) (h3 : meth.code = some c) (h4 : c.code = bytes)
    (h5 : (c.maxLocals == mx && c.exceptionTable.isEmpty && decide (c.maxStack ≤ mostOperands) && decide (meth.sig.returnType = rt) && !meth.locks && decide (parseMethodDescriptor y.desc = some meth.sig)) = true) : (Jvm.Cond.code y bytes mx rt).before a s = true := by
  simp only [Bool.and_eq_true, beq_iff_eq, Bool.not_eq_true', decide_eq_true_eq] at h5
  obtain ⟨⟨⟨⟨⟨g1, g2⟩, g3⟩, g4⟩, g5⟩, g6⟩ := h5
  simp [Cond.before, Cond.holds, Cond.value, h1, h2, h3, h4, g1, g2, g3, g4, g5, g6]
def isCode : Jvm.Cond → Bool
  | .code _ _ _ _ => true
  | _ => false
theorem all_split {L : List Jvm.Cond} {P : Jvm.Cond → Bool} (h1 : L.all (fun c => isCode c || P c) = true) (h2 : ∀ c ∈ L.filter isCode, P c = true) : L.all P = true := by
  refine List.all_eq_true.mpr fun c hc => ?_
  have h := List.all_eq_true.mp h1 c hc
  rcases Bool.eq_false_or_eq_true (isCode c) with hi | hi
  · exact h2 c (List.mem_filter.mpr ⟨hc, hi⟩)
  · simpa [hi] using h
set_option maxRecDepth 65536 in
theorem w_c0 : (Jvm.Cond.code x code maxLocals ret).before args0 about1 = true := code_word (m := ⟨1, 2⟩) (meth := k1m2) (c := k1c2) (by decide +kernel) rfl rfl rfl (by decide +kernel)
set_option maxRecDepth 65536 in
theorem w_c1 : (Jvm.Cond.code ({ cls := "com/example/runehall/runehall/tavern/DwarfClassCardsCarryPointsPinLaw", name := "pick", desc := "(I)Lcom/example/runehall/runehall/tavern/DwarfClass;" } : Jvm.MethodName) method_2_code (1 : Nat) (Option.some (Jvm.ClassFile.FieldType.object "com/example/runehall/runehall/tavern/DwarfClass"))).before args0 about1 = true := code_word (m := ⟨1, 1⟩) (meth := k1m1) (c := k1c1) (by decide +kernel) rfl rfl rfl (by decide +kernel)
set_option maxRecDepth 65536 in
theorem w_c2 : (Jvm.Cond.code ({ cls := "com/example/runehall/runehall/tavern/DwarfClass", name := "cardsCarryPoints", desc := "()Z" } : Jvm.MethodName) prog_16_method_7_code (1 : Nat) (Option.some Jvm.ClassFile.FieldType.boolean)).before args0 about1 = true := code_word (m := ⟨6, 0⟩) (meth := k6m0) (c := k6c0) (by decide +kernel) rfl rfl rfl (by decide +kernel)
set_option maxRecDepth 65536 in
theorem w_c3 : (Jvm.Cond.code ({ cls := "com/example/runehall/runehall/tavern/DwarfClass", name := "value", desc := "(II)I" } : Jvm.MethodName) prog_16_method_8_code (4 : Nat) (Option.some Jvm.ClassFile.FieldType.int)).before args0 about1 = true := code_word (m := ⟨6, 1⟩) (meth := k6m1) (c := k6c1) (by decide +kernel) rfl rfl rfl (by decide +kernel)
set_option maxRecDepth 65536 in
theorem w_c4 : (Jvm.Cond.code ({ cls := "java/lang/Enum", name := "ordinal", desc := "()I" } : Jvm.MethodName) jdk_37_method_2_code (1 : Nat) (Option.some Jvm.ClassFile.FieldType.int)).before args0 about1 = true := code_word (m := ⟨5, 0⟩) (meth := k5m0) (c := k5c0) (by decide +kernel) rfl rfl rfl (by decide +kernel)
set_option maxRecDepth 65536 in
theorem w_c5 : (Jvm.Cond.code ({ cls := "java/lang/Math", name := "multiplyExact", desc := "(II)I" } : Jvm.MethodName) jdk_29_method_28_code (4 : Nat) (Option.some Jvm.ClassFile.FieldType.int)).before args0 about1 = true := code_word (m := ⟨7, 1⟩) (meth := k7m1) (c := k7c1) (by decide +kernel) rfl rfl rfl (by decide +kernel)
set_option maxRecDepth 65536 in
theorem w_c6 : (Jvm.Cond.code ({ cls := "java/lang/Math", name := "toIntExact", desc := "(J)I" } : Jvm.MethodName) jdk_29_method_43_code (2 : Nat) (Option.some Jvm.ClassFile.FieldType.int)).before args0 about1 = true := code_word (m := ⟨7, 2⟩) (meth := k7m2) (c := k7c2) (by decide +kernel) rfl rfl rfl (by decide +kernel)
def codes1 : List Jvm.Cond := [Jvm.Cond.code x code maxLocals ret, Jvm.Cond.code ({ cls := "com/example/runehall/runehall/tavern/DwarfClassCardsCarryPointsPinLaw", name := "pick", desc := "(I)Lcom/example/runehall/runehall/tavern/DwarfClass;" } : Jvm.MethodName) method_2_code (1 : Nat) (Option.some (Jvm.ClassFile.FieldType.object "com/example/runehall/runehall/tavern/DwarfClass")), Jvm.Cond.code ({ cls := "com/example/runehall/runehall/tavern/DwarfClass", name := "cardsCarryPoints", desc := "()Z" } : Jvm.MethodName) prog_16_method_7_code (1 : Nat) (Option.some Jvm.ClassFile.FieldType.boolean), Jvm.Cond.code ({ cls := "com/example/runehall/runehall/tavern/DwarfClass", name := "value", desc := "(II)I" } : Jvm.MethodName) prog_16_method_8_code (4 : Nat) (Option.some Jvm.ClassFile.FieldType.int), Jvm.Cond.code ({ cls := "java/lang/Enum", name := "ordinal", desc := "()I" } : Jvm.MethodName) jdk_37_method_2_code (1 : Nat) (Option.some Jvm.ClassFile.FieldType.int), Jvm.Cond.code ({ cls := "java/lang/Math", name := "multiplyExact", desc := "(II)I" } : Jvm.MethodName) jdk_29_method_28_code (4 : Nat) (Option.some Jvm.ClassFile.FieldType.int), Jvm.Cond.code ({ cls := "java/lang/Math", name := "toIntExact", desc := "(J)I" } : Jvm.MethodName) jdk_29_method_43_code (2 : Nat) (Option.some Jvm.ClassFile.FieldType.int)]
set_option maxRecDepth 65536 in
theorem codes_eq : words1.filter isCode = codes1 := rfl
theorem w_codes : ∀ c ∈ words1.filter isCode, c.before args0 about1 = true := by
  rw [codes_eq]
  intro c hc
  simp only [codes1, List.mem_cons, List.not_mem_nil, or_false] at hc
  rcases hc with rfl | rfl | rfl | rfl | rfl | rfl | rfl
  · exact w_c0
  · exact w_c1
  · exact w_c2
  · exact w_c3
  · exact w_c4
  · exact w_c5
  · exact w_c6
set_option maxRecDepth 65536 in
theorem w_t1 : (words1.take 24).all (fun c => isCode c || c.before args0 about1) = true := by decide +kernel
set_option maxRecDepth 65536 in
theorem w_t2 : (words1.drop 24).all (fun c => isCode c || c.before args0 about1) = true := by decide +kernel
theorem w_tables : (allAtoms (Jvm.Cond.code x code maxLocals ret :: tables_1)).before args0 about1 = true := by
  rw [allAtoms_all]
  show words1.all (fun c => c.before args0 about1) = true
  refine all_split ?_ w_codes
  rw [← List.take_append_drop 24 words1, List.all_append, w_t1, w_t2]
  rfl
set_option maxRecDepth 65536 in
theorem w_case : (Jvm.Cond.and given_1 narrow_1).before args0 about1 = true := by decide +kernel
theorem w_applies : (headSpec (Jvm.Cond.code x code maxLocals ret :: tables_1) room_1).applies x e0.platform about1 = true :=
  (Spec.applies_iff w_frames).mpr ⟨w_running, w_runnable, w_alone, w_named, w_hears, w_ripe, w_room, w_tables⟩
theorem atStart : AtStart classFile x code maxLocals ret World_1 tables_1 room_1 Calls_1 rest_1 Pre_1 launch0 p0 e0 about1 theMethod args0 below0 :=
  ⟨lists_1, trivial, launch0.admits_env _ _ _, launch0.least_env, fairChoices_fair.cas, fairChoices_fair.clock, w_frames, w_args, w_heap, w_applies, trivial, trivial, w_case⟩
end start1
theorem witness_1 : WitnessClaimed_1 := ⟨start1.p0, start1.e0, start1.about1, start1.theMethod, start1.args0, start1.below0, start1.atStart⟩
end Jvm.Pilot.@@N@@
