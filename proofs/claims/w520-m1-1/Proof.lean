import JvmDerived
import JvmDerived.Pilot.@@N@@Statement
import JvmDerived.Pilot.@@N@@Code
set_option linter.unusedVariables false
set_option linter.unusedSimpArgs false
namespace Jvm.RoadKit
open Sem ClassFile Op Lib Jvm.Stand Jvm.Free Jvm.LawKit
section New
variable {p : Program} {l : Launch} {e : Env} {R : Room} {s : State} {m : MethodId} {args : Array Value} {below : List Frame} {meth : Method} {c : Code} {T : State} {locs : List Loc} {cells slots : Nat}
theorem retI (X : Stand p l e R s m args below meth c T locs cells slots) (hx : p.tables.exec = Jvm.exec) {pc : Nat} {Ls : Array Slot} {z : Int32} {rest : List Value} (hret : meth.sig.returnType = some .int) (hd : decode c.code pc = .ok (.ireturn, 1)) {fs : List Frame}
    (hl : ∀ (f : JFrame) (acts : List Action), f.method = m → f.locked = none → f.entered = [] → (doReturn e (T.setTop f) acts (some (.int z))).1 = T.setFrames fs) : Steps p.tables e below (T.setTop (mkF m pc Ls (.int z :: rest))) (T.setFrames fs) := by
  have hm' : T.vm.method? m = some meth := X.method'
  have hn : narrow .int (.int z) = .int z := rfl
  show Steps p.tables e below (T.setTop { method := m, pc := pc, locals := Ls, stack := _ :: rest, locked := none }) _
  jvm_step X.here [X.here.top, hx, hd, hm', hret, hn]
  first | (intro acts; rw [hl _ acts rfl rfl rfl]) | rw [hl _ _ rfl rfl rfl]
  exact Steps.refl _
end New
end Jvm.RoadKit
@@BLOCK:NumsL.lean.txt@@
namespace Jvm.Pilot.@@N@@
open Jvm Jvm.ClassFile Sem Op Lib Jvm.Free Jvm.Stand Jvm.LawKit Jvm.RoadKit Bundle Jvm.Pilot.@@N@@.Jvm.D
theorem d3_0 : decode jdk_29_method_69_code 0 = .ok (.iload_n 0, 1) := by decide +kernel
theorem d3_1 : decode jdk_29_method_69_code 1 = .ok (.iload_n 1, 1) := by decide +kernel
theorem d3_2 : decode jdk_29_method_69_code 2 = .ok (.if_icmp .gt 7, 3) := by decide +kernel
theorem d3_9 : decode jdk_29_method_69_code 9 = .ok (.iload_n 1, 1) := by decide +kernel
theorem d3_10 : decode jdk_29_method_69_code 10 = .ok (.ireturn, 1) := by decide +kernel
theorem d3_5 : decode jdk_29_method_69_code 5 = .ok (.iload_n 0, 1) := by decide +kernel
theorem d3_6 : decode jdk_29_method_69_code 6 = .ok (.goto 4, 3) := by decide +kernel
def f_min (p0 : Int32) (p1 : Int32) : Int32 := (if p1 < p0 then p1 else p0)
theorem ef3 (m : MethodId) (x0 : Int32) (x1 : Int32) : entryFrame m #[(.int x0), (.int x1)] 2 = mkF m 0 #[.val (.int x0), .val (.int x1)] [] := by first | (simp [entryFrame, mkF, argsToLocals, Value.category]; done) | rfl
def Q3 (Z : State) (p0 : Int32) (p1 : Int32) (h0 : Heap) (n0 : Nat) (v : Option Value) (h : Heap) (L : List Loc) : Prop := v = some (.int (f_min p0 p1)) ∧ Fr n0 L ∧ h = h0
set_option maxRecDepth 65536 in
set_option maxHeartbeats 40000000 in
theorem rm3 (l : Launch) (Z : State) (a0 : Array Value) (hw : ∀ d ∈ tables_1, d.before a0 Z = true) (ws : List Jvm.Cond) (p0 : Int32) (p1 : Int32) (h0 : Heap) (n0 : Nat) (Z0 : n0 ≤ h0.size) :
    MetFree l (⟨"java/lang/Math", "min", "(II)I"⟩ : MethodName) (head1 (Jvm.Cond.code (⟨"java/lang/Math", "min", "(II)I"⟩ : MethodName) jdk_29_method_69_code 2 (some .int) :: ws) ({ frames := 0, cells := 0, slots := 0, locals := 0 } : Room)) (fun a U => a = #[(.int p0), (.int p1)] ∧ Z.Warmed39 U.vm ∧ U.heap = h0) (fun _ _ _ _ _ => True) (fun _ U o U' => ∃ v L, o = .returned v ∧ Q3 Z p0 p1 h0 n0 v U'.heap L ∧ FrameEnd U o U' L ({ frames := 0, cells := 0, slots := 0, locals := 0 } : Room).cells ({ frames := 0, cells := 0, slots := 0, locals := 0 } : Room).slots) := by
  refine MetFree.of_bodySF (Jvm.Free.JP.mathPlain rfl (by decide +kernel)) hisR ?_
  intro p e s m args below meth c s₁ Bd hml0 hP hK
  obtain ⟨rfl, hZ, hh⟩ := hP
  have hx := Bd.exec
  have hby := Bd.bytes
  have hml : c.maxLocals = 2 := hml0
  have hown : s.vm.findClass "java/lang/Math" = some m.cls := findClass_of_methodNamed Bd.named
  have hnm := (name_of_methodNamed Bd.named Bd.method).1
  have X0 : Stand p l e ({ frames := 0, cells := 0, slots := 0, locals := 0 } : Room) s m #[(.int p0), (.int p1)] below meth c s₁ [] 0 0 := Stand.of_body Bd
  have e0 : s₁.heap = h0 := by rw [← hh, Bd.state]; rfl
  have N0 := Fr.nil n0
  have pre0 : ∀ t, Steps p.tables e below (s₁.setTop (mkF m 0 #[.val (.int p0), .val (.int p1)] [])) t → Steps p.tables e below (s₁.setTop (entryFrame m #[(.int p0), (.int p1)] 2)) t := fun t k => castTop (ef3 m p0 p1) k
  have S1 : ∀ t, Steps p.tables e below (s₁.setTop (mkF m 2 #[.val (.int p0), .val (.int p1)] [(.int p1), (.int p0)])) t → Steps p.tables e below (s₁.setTop (entryFrame m #[(.int p0), (.int p1)] 2)) t := by
    intro t kt
    refine pre0 _ ?_
    show Steps p.tables e below (s₁.setTop (mkF m 0 #[.val (.int p0), .val (.int p1)] [])) _
    refine XS.iloadN X0.here hx rfl (hb hby d3_0) rfl ?_
    show Steps p.tables e below (s₁.setTop (mkF m 1 #[.val (.int p0), .val (.int p1)] [(.int p0)])) _
    refine XS.iloadN X0.here hx rfl (hb hby d3_1) rfl ?_
    exact kt
  by_cases hc2_2 : p1 < p0
  case pos =>
    obtain ⟨fs, hrT, hrunT, hendT, hWT, hsameT⟩ := X0.leave (v := some (.int p1)) (fun h => by rw [Bd.returns] at h; cases h)
    refine ⟨_, _, S1 _ ?_, hrunT, hendT, _, _, rfl, ?_, ⟨_, rfl⟩, hWT, hsameT.mono (by decide) (by decide)⟩
    · show Steps p.tables e below (s₁.setTop (mkF m 2 #[.val (.int p0), .val (.int p1)] [(.int p1), (.int p0)])) _
      refine XS.icmpYes X0.here hx rfl (pc0 := 2) (pc' := 9) rfl (hb hby d3_2) rfl (XT.ii_gt_t hc2_2) (by decide) (by decide) ?_
      show Steps p.tables e below (s₁.setTop (mkF m 9 #[.val (.int p0), .val (.int p1)] [])) _
      refine XS.iloadN X0.here hx rfl (hb hby d3_9) rfl ?_
      show Steps p.tables e below (s₁.setTop (mkF m 10 #[.val (.int p0), .val (.int p1)] [(.int p1)])) _
      exact retI X0 hx Bd.returns (hb hby d3_10) hrT
    · show Q3 Z p0 p1 h0 n0 _ s₁.heap _
      rw [e0]
      have hv : f_min p0 p1 = p1 := by unfold f_min; rw [if_pos hc2_2]
      exact ⟨(congrArg (fun z => some (Value.int z)) hv.symm), N0, rfl⟩
  case neg =>
    obtain ⟨fs, hrT, hrunT, hendT, hWT, hsameT⟩ := X0.leave (v := some (.int p0)) (fun h => by rw [Bd.returns] at h; cases h)
    refine ⟨_, _, S1 _ ?_, hrunT, hendT, _, _, rfl, ?_, ⟨_, rfl⟩, hWT, hsameT.mono (by decide) (by decide)⟩
    · show Steps p.tables e below (s₁.setTop (mkF m 2 #[.val (.int p0), .val (.int p1)] [(.int p1), (.int p0)])) _
      refine XS.icmpNo X0.here hx rfl (hb hby d3_2) rfl (XT.ii_gt_f hc2_2) ?_
      show Steps p.tables e below (s₁.setTop (mkF m 5 #[.val (.int p0), .val (.int p1)] [])) _
      refine XS.iloadN X0.here hx rfl (hb hby d3_5) rfl ?_
      show Steps p.tables e below (s₁.setTop (mkF m 6 #[.val (.int p0), .val (.int p1)] [(.int p0)])) _
      refine XS.goto X0.here hx rfl (pc0 := 6) (pc' := 10) rfl (hb hby d3_6) (by decide) (by decide) ?_
      show Steps p.tables e below (s₁.setTop (mkF m 10 #[.val (.int p0), .val (.int p1)] [(.int p0)])) _
      exact retI X0 hx Bd.returns (hb hby d3_10) hrT
    · show Q3 Z p0 p1 h0 n0 _ s₁.heap _
      rw [e0]
      have hv : f_min p0 p1 = p0 := by unfold f_min; rw [if_neg hc2_2]
      exact ⟨(congrArg (fun z => some (Value.int z)) hv.symm), N0, rfl⟩
theorem own_min_nn {p : Int32} (h : ¬ p < 0) : ¬ f_min (65536 : Int32) p < 0 := by
  unfold f_min
  split
  · exact h
  · decide
theorem own_min_cap (p : Int32) : (f_min (65536 : Int32) p).toNatClampNeg ≤ 65536 := by
  unfold f_min
  split
  · rename_i h
    rw [Int32.lt_iff_toInt_lt] at h
    have e : (65536 : Int32).toInt = 65536 := by decide
    have : p.toNatClampNeg = p.toInt.toNat := rfl
    omega
  · decide
theorem d1_0 : decode prog_34_method_1_code 0 = .ok (.aload_n 0, 1) := by decide +kernel
theorem d1_1 : decode prog_34_method_1_code 1 = .ok (.invokespecial 1, 3) := by decide +kernel
theorem d1_4 : decode prog_34_method_1_code 4 = .ok (.aload_n 0, 1) := by decide +kernel
theorem d1_5 : decode prog_34_method_1_code 5 = .ok (.iload_n 1, 1) := by decide +kernel
theorem d1_6 : decode prog_34_method_1_code 6 = .ok (.putfield 7, 3) := by decide +kernel
theorem d1_9 : decode prog_34_method_1_code 9 = .ok (.aload_n 0, 1) := by decide +kernel
theorem d1_10 : decode prog_34_method_1_code 10 = .ok (.ldc 13, 2) := by decide +kernel
theorem d1_12 : decode prog_34_method_1_code 12 = .ok (.iload_n 1, 1) := by decide +kernel
theorem pd__II_I : parseMethodDescriptor "(II)I" = some ⟨[.int, .int], some .int⟩ := by decide +kernel
theorem d1_13 : decode prog_34_method_1_code 13 = .ok (.invokestatic 14, 3) := by decide +kernel
theorem d1_16 : decode prog_34_method_1_code 16 = .ok (.newarray .byte, 2) := by decide +kernel
theorem d1_18 : decode prog_34_method_1_code 18 = .ok (.putfield 20, 3) := by decide +kernel
theorem d1_21 : decode prog_34_method_1_code 21 = .ok (.return_, 1) := by decide +kernel
theorem pn_BoundedOutput : plainName "com/example/sluice/sluice/protocol/BoundedOutput" = true := by first | (simp [plainName, overriddenIn]; done) | decide +kernel
theorem ef1 (m : MethodId) (x0 : Addr) (x1 : Int32) : entryFrame m #[(.ref x0), (.int x1)] 2 = mkF m 0 #[.val (.ref x0), .val (.int x1)] [] := by first | (simp [entryFrame, mkF, argsToLocals, Value.category]; done) | rfl
def Q1 (Z : State) (r0 : Addr) (p1 : Int32) (h0 : Heap) (n0 : Nat) (v : Option Value) (h : Heap) (L : List Loc) : Prop := v = none ∧ Fr n0 L ∧ Keep h0 h [r0] ∧ Fld Z h r0 "com/example/sluice/sluice/protocol/BoundedOutput" "size" "I" (.int (0 : Int32)) ∧ Fld Z h r0 "com/example/sluice/sluice/protocol/BoundedOutput" "maxBytes" "I" (.int p1)
set_option maxRecDepth 65536 in
set_option maxHeartbeats 40000000 in
theorem rm1 (l : Launch) (Z : State) (a0 : Array Value) (hw : ∀ d ∈ tables_1, d.before a0 Z = true) (ws : List Jvm.Cond) (r0 : Addr) (p1 : Int32) (h0 : Heap) (n0 : Nat) (Z0 : n0 ≤ h0.size) (hp : ¬ p1 < 0) (F1 : Fld Z h0 r0 "com/example/sluice/sluice/protocol/BoundedOutput" "bytes" "[B" .null) (F2 : Fld Z h0 r0 "com/example/sluice/sluice/protocol/BoundedOutput" "size" "I" (.int (0 : Int32))) (F3 : Fld Z h0 r0 "com/example/sluice/sluice/protocol/BoundedOutput" "maxBytes" "I" (.int (0 : Int32))) (E1 : Exa Z h0 r0 "com/example/sluice/sluice/protocol/BoundedOutput") (g1 : n0 ≤ r0) :
    MetFree l (⟨"com/example/sluice/sluice/protocol/BoundedOutput", "<init>", "(I)V"⟩ : MethodName) (head1 (Jvm.Cond.code (⟨"com/example/sluice/sluice/protocol/BoundedOutput", "<init>", "(I)V"⟩ : MethodName) prog_34_method_1_code 2 none :: ws) ({ frames := 1, cells := 1, slots := 65536, locals := 14 } : Room)) (fun a U => a = #[(.ref r0), (.int p1)] ∧ Z.Warmed39 U.vm ∧ U.heap = h0) (fun _ _ _ _ _ => True) (fun _ U o U' => ∃ v L, o = .returned v ∧ Q1 Z r0 p1 h0 n0 v U'.heap L ∧ FrameEnd U o U' L ({ frames := 1, cells := 1, slots := 65536, locals := 14 } : Room).cells ({ frames := 1, cells := 1, slots := 65536, locals := 14 } : Room).slots) := by
  refine MetFree.of_bodySF (plainFor_of_name pn_BoundedOutput) hisR ?_
  intro p e s m args below meth c s₁ Bd hml0 hP hK
  obtain ⟨rfl, hZ, hh⟩ := hP
  have hx := Bd.exec
  have hby := Bd.bytes
  have hml : c.maxLocals = 2 := hml0
  have hown : s.vm.findClass "com/example/sluice/sluice/protocol/BoundedOutput" = some m.cls := findClass_of_methodNamed Bd.named
  have hnm := (name_of_methodNamed Bd.named Bd.method).1
  have X0 : Stand p l e ({ frames := 1, cells := 1, slots := 65536, locals := 14 } : Room) s m #[(.ref r0), (.int p1)] below meth c s₁ [] 0 0 := Stand.of_body Bd
  have e0 : s₁.heap = h0 := by rw [← hh, Bd.state]; rfl
  have N0 := Fr.nil n0
  have pre0 : ∀ t, Steps p.tables e below (s₁.setTop (mkF m 0 #[.val (.ref r0), .val (.int p1)] [])) t → Steps p.tables e below (s₁.setTop (entryFrame m #[(.ref r0), (.int p1)] 2)) t := fun t k => castTop (ef1 m r0 p1) k
  obtain ⟨T3, X3, e3, st3⟩ := initO X0 hx hZ hown (hw _ (List.mem_of_getElem? (i := 8) rfl)) (hw _ (List.mem_of_getElem? (i := 9) rfl)) (hw _ (List.mem_of_getElem? (i := 10) rfl)) e0 (g := (mkF m 1 #[.val (.ref r0), .val (.int p1)] [(.ref r0)])) rfl (by rw [hml]; rfl) rfl (hb hby d1_1) (by decide) (W := 0) (by show 2 * 0 + _ ≤ _; exact Nat.le_of_eq rfl) (by decide)
  obtain ⟨T4, h4, X4, e4, W4, st4⟩ := putF X3 hx hZ hown (host := "") (Or.inl (hw _ (List.mem_of_getElem? (i := 11) rfl))) Via.refl e3 F3 E1 (Or.inr ⟨(hw _ (List.mem_of_getElem? (i := 12) rfl)), rfl, hnm⟩) (hw _ (List.mem_of_getElem? (i := 3) rfl)) (ty := .int) (by decide) rfl rfl (g := (mkF m 6 #[.val (.ref r0), .val (.int p1)] [(.int p1), (.ref r0)])) rfl rfl (hb hby d1_6)
  have K5 : Keep h0 h4 [r0] := (Keep.refl h0 [r0]).wr W4 (Or.inl (List.mem_of_getElem? (i := 0) rfl))
  have c6 : Fld Z h4 r0 "com/example/sluice/sluice/protocol/BoundedOutput" "maxBytes" "I" (.int p1) := F3.same W4
  have N7 := Fr.snoc X4 N0 g1
  obtain ⟨_, _, ⟨T8, L8, k8, n8⟩, -, X8, ⟨Lc8, hQ8, l8, y8, z8⟩, st8⟩ := Jvm.LawKit.callS X4 hx (y := (⟨"java/lang/Math", "min", "(II)I"⟩ : MethodName)) hown (mvT hZ (hw _ (List.mem_of_getElem? (i := 14) rfl))) (mvT hZ (hw _ (List.mem_of_getElem? (i := 15) rfl))) (mvT hZ (hw _ (List.mem_of_getElem? (i := 16) rfl))) (mvT hZ (hw _ (List.mem_of_getElem? (i := 17) rfl))) (by decide) (backOf (W := 1) (rm3 l Z a0 hw [] (65536 : Int32) p1 h4 n0 (Nat.le_trans Z0 K5.1) ) hZ (hw _ (List.mem_of_getElem? (i := 17) rfl)) (hw _ (List.mem_of_getElem? (i := 16) rfl)) (by decide) (by decide)) (g := (mkF m 13 #[.val (.ref r0), .val (.int p1)] [(.int p1), (.int (65536 : Int32)), (.ref r0)])) rfl (by rw [hml]; rfl) (argsL := [(.int (65536 : Int32)), (.int p1)]) (rest := [(.ref r0)]) (lenOf pd__II_I rfl) rfl (by show 2 * 0 + _ ≤ _; exact Nat.le_of_eq rfl) (hb hby d1_13) (fun _ _ => ⟨rfl, e4, (by decide : 0 + 0 ≤ _), (by decide : 0 + 0 ≤ _)⟩)
  dsimp only [Pt.U, Pt.locs, Pt.cells, Pt.slots] at X8 l8 y8 z8 st8 hQ8
  subst l8 y8 z8
  obtain ⟨rfl, Nq8, e8⟩ := hQ8
  have N8 := Fr.app N7 Nq8
  obtain ⟨T9, h9, k9, X9, e9, E9, A9, st9⟩ := newP X8 hx hZ (hw _ (List.mem_of_getElem? (i := 18) rfl)) e8 (g := (mkF m 16 #[.val (.ref r0), .val (.int p1)] [(.int (f_min (65536 : Int32) p1)), (.ref r0)])) rfl (hb hby d1_16) rfl (own_min_nn hp) (cap := 65536) (own_min_cap p1) (by decide) (by decide) (by decide)
  obtain ⟨b9, g9⟩ : ∃ z, z = h4.size := ⟨_, rfl⟩
  rw [← g9] at A9 st9
  have ge_b9 : n0 ≤ b9 := Nat.le_trans (Nat.le_trans Z0 K5.1) (Nat.le_of_eq g9.symm)
  have sz_b9 : h0.size ≤ b9 := Nat.le_trans K5.1 (Nat.le_of_eq g9.symm)
  have K10 : Keep h0 h9 [r0] := K5.ext E9
  have V9 : Arv Z h9 b9 k9 .byte (f_min (65536 : Int32) p1) [] (.int (0 : Int32)) := Arv.new A9 (own_min_nn hp)
  have c11 : Exa Z h9 r0 "com/example/sluice/sluice/protocol/BoundedOutput" := ((E1.wr W4).ext E9)
  have c12 : Fld Z h9 r0 "com/example/sluice/sluice/protocol/BoundedOutput" "bytes" "[B" .null := ((F1.other W4 (Or.inr (slot_ne (Or.inl (hw _ (List.mem_of_getElem? (i := 20) rfl))) (Or.inr (hw _ (List.mem_of_getElem? (i := 12) rfl))) (by decide) (t := (.array .byte)) (t' := .int) (by decide) (by decide)))).ext E9)
  obtain ⟨T13, h13, X13, e13, W13, st13⟩ := putF X9 hx hZ hown (host := "") (Or.inl (hw _ (List.mem_of_getElem? (i := 19) rfl))) Via.refl e9 c12 c11 (Or.inl (hw _ (List.mem_of_getElem? (i := 20) rfl))) (hw _ (List.mem_of_getElem? (i := 3) rfl)) (ty := (.array .byte)) (by decide) rfl rfl (g := (mkF m 18 #[.val (.ref r0), .val (.int p1)] [(.ref b9), (.ref r0)])) rfl rfl (hb hby d1_18)
  have K14 : Keep h0 h13 [r0] := K10.wr W13 (Or.inl (List.mem_of_getElem? (i := 0) rfl))
  have c15 : Fld Z h13 r0 "com/example/sluice/sluice/protocol/BoundedOutput" "bytes" "[B" (.ref b9) := c12.same W13
  have N16 := Fr.snoc X13 N8 g1
  obtain ⟨fs, hrT, hrunT, hendT, hWT, hsameT⟩ := X13.leave (v := none) (fun _ => rfl)
  refine ⟨_, _, pre0 _ ?_, hrunT, hendT, _, _, rfl, ?_, ⟨_, rfl⟩, hWT, hsameT.mono (by decide) (by decide)⟩
  · show Steps p.tables e below (s₁.setTop (mkF m 0 #[.val (.ref r0), .val (.int p1)] [])) _
    refine XS.aloadN X0.here hx rfl (hb hby d1_0) rfl rfl ?_
    show Steps p.tables e below (s₁.setTop (mkF m 1 #[.val (.ref r0), .val (.int p1)] [(.ref r0)])) _
    refine st3 _ ?_
    show Steps p.tables e below (T3.setTop (mkF m 4 #[.val (.ref r0), .val (.int p1)] [])) _
    refine XS.aloadN X3.here hx rfl (hb hby d1_4) rfl rfl ?_
    show Steps p.tables e below (T3.setTop (mkF m 5 #[.val (.ref r0), .val (.int p1)] [(.ref r0)])) _
    refine XS.iloadN X3.here hx rfl (hb hby d1_5) rfl ?_
    show Steps p.tables e below (T3.setTop (mkF m 6 #[.val (.ref r0), .val (.int p1)] [(.int p1), (.ref r0)])) _
    refine st4 _ ?_
    show Steps p.tables e below (T4.setTop (mkF m 9 #[.val (.ref r0), .val (.int p1)] [])) _
    refine XS.aloadN X4.here hx rfl (hb hby d1_9) rfl rfl ?_
    show Steps p.tables e below (T4.setTop (mkF m 10 #[.val (.ref r0), .val (.int p1)] [(.ref r0)])) _
    refine X4.ldcInt hx hown (mvT hZ (hw _ (List.mem_of_getElem? (i := 13) rfl))) (g := (mkF m 10 #[.val (.ref r0), .val (.int p1)] [(.ref r0)])) rfl (hb hby d1_10) _ ?_
    show Steps p.tables e below (T4.setTop (mkF m 12 #[.val (.ref r0), .val (.int p1)] [(.int (65536 : Int32)), (.ref r0)])) _
    refine XS.iloadN X4.here hx rfl (hb hby d1_12) rfl ?_
    show Steps p.tables e below (T4.setTop (mkF m 13 #[.val (.ref r0), .val (.int p1)] [(.int p1), (.int (65536 : Int32)), (.ref r0)])) _
    refine st8 _ ?_
    show Steps p.tables e below (T8.setTop (mkF m 16 #[.val (.ref r0), .val (.int p1)] [(.int (f_min (65536 : Int32) p1)), (.ref r0)])) _
    refine st9 _ ?_
    show Steps p.tables e below (T9.setTop (mkF m 18 #[.val (.ref r0), .val (.int p1)] [(.ref b9), (.ref r0)])) _
    refine st13 _ ?_
    show Steps p.tables e below (T13.setTop (mkF m 21 #[.val (.ref r0), .val (.int p1)] [])) _
    exact X13.returnOut hx Bd.returns (hb hby d1_21) hrT
  · show Q1 Z r0 p1 h0 n0 _ T13.heap _
    rw [e13]
    have c17 : Fld Z h13 r0 "com/example/sluice/sluice/protocol/BoundedOutput" "size" "I" (.int (0 : Int32)) := (((F2.other W4 (Or.inr (slot_ne (Or.inl (hw _ (List.mem_of_getElem? (i := 27) rfl))) (Or.inr (hw _ (List.mem_of_getElem? (i := 12) rfl))) (by decide) (t := .int) (t' := .int) (by decide) (by decide)))).ext E9).other W13 (Or.inr (slot_ne (Or.inl (hw _ (List.mem_of_getElem? (i := 27) rfl))) (Or.inl (hw _ (List.mem_of_getElem? (i := 20) rfl))) (by decide) (t := .int) (t' := (.array .byte)) (by decide) (by decide))))
    have c18 : Fld Z h13 r0 "com/example/sluice/sluice/protocol/BoundedOutput" "maxBytes" "I" (.int p1) := ((c6.ext E9).other W13 (Or.inr (slot_ne (Or.inr (hw _ (List.mem_of_getElem? (i := 12) rfl))) (Or.inl (hw _ (List.mem_of_getElem? (i := 20) rfl))) (by decide) (t := .int) (t' := (.array .byte)) (by decide) (by decide))))
    exact ⟨rfl, N16, K14, c17, c18⟩
theorem d4_0 : decode prog_34_method_5_code 0 = .ok (.aload_n 0, 1) := by decide +kernel
theorem d4_1 : decode prog_34_method_5_code 1 = .ok (.dup, 1) := by decide +kernel
theorem d4_2 : decode prog_34_method_5_code 2 = .ok (.getfield 32, 3) := by decide +kernel
theorem d4_5 : decode prog_34_method_5_code 5 = .ok (.iload_n 1, 1) := by decide +kernel
theorem d4_6 : decode prog_34_method_5_code 6 = .ok (.iadd, 1) := by decide +kernel
theorem d4_7 : decode prog_34_method_5_code 7 = .ok (.putfield 32, 3) := by decide +kernel
theorem d4_10 : decode prog_34_method_5_code 10 = .ok (.return_, 1) := by decide +kernel
theorem ef4 (m : MethodId) (x0 : Addr) (x1 : Int32) : entryFrame m #[(.ref x0), (.int x1)] 2 = mkF m 0 #[.val (.ref x0), .val (.int x1)] [] := by first | (simp [entryFrame, mkF, argsToLocals, Value.category]; done) | rfl
def Q4 (Z : State) (r0 : Addr) (p1 : Int32) (us : Int32) (um : Int32) (h0 : Heap) (n0 : Nat) (v : Option Value) (h : Heap) (L : List Loc) : Prop := v = none ∧ Fr n0 L ∧ Keep h0 h [r0] ∧ Fld Z h r0 "com/example/sluice/sluice/protocol/BoundedOutput" "size" "I" (.int (us + p1)) ∧ Fld Z h r0 "com/example/sluice/sluice/protocol/BoundedOutput" "maxBytes" "I" (.int um)
set_option maxRecDepth 65536 in
set_option maxHeartbeats 40000000 in
theorem rm4 (l : Launch) (Z : State) (a0 : Array Value) (hw : ∀ d ∈ tables_1, d.before a0 Z = true) (ws : List Jvm.Cond) (r0 : Addr) (p1 : Int32) (us : Int32) (um : Int32) (h0 : Heap) (n0 : Nat) (Z0 : n0 ≤ h0.size) (F2 : Fld Z h0 r0 "com/example/sluice/sluice/protocol/BoundedOutput" "size" "I" (.int us)) (F3 : Fld Z h0 r0 "com/example/sluice/sluice/protocol/BoundedOutput" "maxBytes" "I" (.int um)) (E1 : Exa Z h0 r0 "com/example/sluice/sluice/protocol/BoundedOutput") (g1 : n0 ≤ r0) :
    MetFree l (⟨"com/example/sluice/sluice/protocol/BoundedOutput", "written", "(I)V"⟩ : MethodName) (head1 (Jvm.Cond.code (⟨"com/example/sluice/sluice/protocol/BoundedOutput", "written", "(I)V"⟩ : MethodName) prog_34_method_5_code 2 none :: ws) ({ frames := 0, cells := 0, slots := 0, locals := 0 } : Room)) (fun a U => a = #[(.ref r0), (.int p1)] ∧ Z.Warmed39 U.vm ∧ U.heap = h0) (fun _ _ _ _ _ => True) (fun _ U o U' => ∃ v L, o = .returned v ∧ Q4 Z r0 p1 us um h0 n0 v U'.heap L ∧ FrameEnd U o U' L ({ frames := 0, cells := 0, slots := 0, locals := 0 } : Room).cells ({ frames := 0, cells := 0, slots := 0, locals := 0 } : Room).slots) := by
  refine MetFree.of_bodySF (plainFor_of_name pn_BoundedOutput) hisR ?_
  intro p e s m args below meth c s₁ Bd hml0 hP hK
  obtain ⟨rfl, hZ, hh⟩ := hP
  have hx := Bd.exec
  have hby := Bd.bytes
  have hml : c.maxLocals = 2 := hml0
  have hown : s.vm.findClass "com/example/sluice/sluice/protocol/BoundedOutput" = some m.cls := findClass_of_methodNamed Bd.named
  have hnm := (name_of_methodNamed Bd.named Bd.method).1
  have X0 : Stand p l e ({ frames := 0, cells := 0, slots := 0, locals := 0 } : Room) s m #[(.ref r0), (.int p1)] below meth c s₁ [] 0 0 := Stand.of_body Bd
  have e0 : s₁.heap = h0 := by rw [← hh, Bd.state]; rfl
  have N0 := Fr.nil n0
  have pre0 : ∀ t, Steps p.tables e below (s₁.setTop (mkF m 0 #[.val (.ref r0), .val (.int p1)] [])) t → Steps p.tables e below (s₁.setTop (entryFrame m #[(.ref r0), (.int p1)] 2)) t := fun t k => castTop (ef4 m r0 p1) k
  obtain ⟨T19, X19, e19, st19⟩ := getF X0 hx hZ hown (host := "") (Or.inl (hw _ (List.mem_of_getElem? (i := 26) rfl))) Via.refl e0 F2 (g := (mkF m 2 #[.val (.ref r0), .val (.int p1)] [(.ref r0), (.ref r0)])) rfl rfl (hb hby d4_2)
  obtain ⟨T20, h20, X20, e20, W20, st20⟩ := putF X19 hx hZ hown (host := "") (Or.inl (hw _ (List.mem_of_getElem? (i := 26) rfl))) Via.refl e19 F2 E1 (Or.inl (hw _ (List.mem_of_getElem? (i := 27) rfl))) (hw _ (List.mem_of_getElem? (i := 3) rfl)) (ty := .int) (by decide) rfl rfl (g := (mkF m 7 #[.val (.ref r0), .val (.int p1)] [(.int (us + p1)), (.ref r0)])) rfl rfl (hb hby d4_7)
  have K21 : Keep h0 h20 [r0] := (Keep.refl h0 [r0]).wr W20 (Or.inl (List.mem_of_getElem? (i := 0) rfl))
  have c22 : Fld Z h20 r0 "com/example/sluice/sluice/protocol/BoundedOutput" "size" "I" (.int (us + p1)) := F2.same W20
  have N23 := Fr.snoc X20 N0 g1
  obtain ⟨fs, hrT, hrunT, hendT, hWT, hsameT⟩ := X20.leave (v := none) (fun _ => rfl)
  refine ⟨_, _, pre0 _ ?_, hrunT, hendT, _, _, rfl, ?_, ⟨_, rfl⟩, hWT, hsameT.mono (by decide) (by decide)⟩
  · show Steps p.tables e below (s₁.setTop (mkF m 0 #[.val (.ref r0), .val (.int p1)] [])) _
    refine XS.aloadN X0.here hx rfl (hb hby d4_0) rfl rfl ?_
    show Steps p.tables e below (s₁.setTop (mkF m 1 #[.val (.ref r0), .val (.int p1)] [(.ref r0)])) _
    refine XS.dup X0.here hx rfl (hb hby d4_1) rfl rfl ?_
    show Steps p.tables e below (s₁.setTop (mkF m 2 #[.val (.ref r0), .val (.int p1)] [(.ref r0), (.ref r0)])) _
    refine st19 _ ?_
    show Steps p.tables e below (T19.setTop (mkF m 5 #[.val (.ref r0), .val (.int p1)] [(.int us), (.ref r0)])) _
    refine XS.iloadN X19.here hx rfl (hb hby d4_5) rfl ?_
    show Steps p.tables e below (T19.setTop (mkF m 6 #[.val (.ref r0), .val (.int p1)] [(.int p1), (.int us), (.ref r0)])) _
    refine XS.iadd X19.here hx rfl (hb hby d4_6) rfl ?_
    show Steps p.tables e below (T19.setTop (mkF m 7 #[.val (.ref r0), .val (.int p1)] [(.int (us + p1)), (.ref r0)])) _
    refine st20 _ ?_
    show Steps p.tables e below (T20.setTop (mkF m 10 #[.val (.ref r0), .val (.int p1)] [])) _
    exact X20.returnOut hx Bd.returns (hb hby d4_10) hrT
  · show Q4 Z r0 p1 us um h0 n0 _ T20.heap _
    rw [e20]
    have c24 : Fld Z h20 r0 "com/example/sluice/sluice/protocol/BoundedOutput" "maxBytes" "I" (.int um) := (F3.other W20 (Or.inr (slot_ne (Or.inr (hw _ (List.mem_of_getElem? (i := 12) rfl))) (Or.inl (hw _ (List.mem_of_getElem? (i := 27) rfl))) (by decide) (t := .int) (t' := .int) (by decide) (by decide))))
    exact ⟨rfl, N23, K21, c22, c24⟩
theorem d5_0 : decode prog_34_method_3_code 0 = .ok (.aload_n 0, 1) := by decide +kernel
theorem d5_1 : decode prog_34_method_3_code 1 = .ok (.getfield 32, 3) := by decide +kernel
theorem d5_4 : decode prog_34_method_3_code 4 = .ok (.i2l, 1) := by decide +kernel
theorem d5_5 : decode prog_34_method_3_code 5 = .ok (.iload_n 1, 1) := by decide +kernel
theorem d5_6 : decode prog_34_method_3_code 6 = .ok (.i2l, 1) := by decide +kernel
theorem d5_7 : decode prog_34_method_3_code 7 = .ok (.ladd, 1) := by decide +kernel
theorem d5_8 : decode prog_34_method_3_code 8 = .ok (.aload_n 0, 1) := by decide +kernel
theorem d5_9 : decode prog_34_method_3_code 9 = .ok (.getfield 7, 3) := by decide +kernel
theorem d5_12 : decode prog_34_method_3_code 12 = .ok (.i2l, 1) := by decide +kernel
theorem d5_13 : decode prog_34_method_3_code 13 = .ok (.lcmp, 1) := by decide +kernel
theorem d5_14 : decode prog_34_method_3_code 14 = .ok (.ifCond .gt 7, 3) := by decide +kernel
theorem d5_21 : decode prog_34_method_3_code 21 = .ok (.iconst 0, 1) := by decide +kernel
theorem d5_22 : decode prog_34_method_3_code 22 = .ok (.ireturn, 1) := by decide +kernel
theorem d5_17 : decode prog_34_method_3_code 17 = .ok (.iconst 1, 1) := by decide +kernel
theorem d5_18 : decode prog_34_method_3_code 18 = .ok (.goto 4, 3) := by decide +kernel
def f_fits (p1 : Int32) (us : Int32) (um : Int32) : Int32 := (if (um.toInt64) < ((us.toInt64) + (p1.toInt64)) then (0 : Int32) else (1 : Int32))
theorem ef5 (m : MethodId) (x0 : Addr) (x1 : Int32) : entryFrame m #[(.ref x0), (.int x1)] 2 = mkF m 0 #[.val (.ref x0), .val (.int x1)] [] := by first | (simp [entryFrame, mkF, argsToLocals, Value.category]; done) | rfl
def Q5 (Z : State) (r0 : Addr) (p1 : Int32) (us : Int32) (um : Int32) (h0 : Heap) (n0 : Nat) (v : Option Value) (h : Heap) (L : List Loc) : Prop := v = some (.int (f_fits p1 us um)) ∧ Fr n0 L ∧ h = h0
set_option maxRecDepth 65536 in
set_option maxHeartbeats 40000000 in
theorem rm5 (l : Launch) (Z : State) (a0 : Array Value) (hw : ∀ d ∈ tables_1, d.before a0 Z = true) (ws : List Jvm.Cond) (r0 : Addr) (p1 : Int32) (us : Int32) (um : Int32) (h0 : Heap) (n0 : Nat) (Z0 : n0 ≤ h0.size) (F2 : Fld Z h0 r0 "com/example/sluice/sluice/protocol/BoundedOutput" "size" "I" (.int us)) (F3 : Fld Z h0 r0 "com/example/sluice/sluice/protocol/BoundedOutput" "maxBytes" "I" (.int um)) :
    MetFree l (⟨"com/example/sluice/sluice/protocol/BoundedOutput", "fits", "(I)Z"⟩ : MethodName) (head1 (Jvm.Cond.code (⟨"com/example/sluice/sluice/protocol/BoundedOutput", "fits", "(I)Z"⟩ : MethodName) prog_34_method_3_code 2 (some .boolean) :: ws) ({ frames := 0, cells := 0, slots := 0, locals := 0 } : Room)) (fun a U => a = #[(.ref r0), (.int p1)] ∧ Z.Warmed39 U.vm ∧ U.heap = h0) (fun _ _ _ _ _ => True) (fun _ U o U' => ∃ v L, o = .returned v ∧ Q5 Z r0 p1 us um h0 n0 v U'.heap L ∧ FrameEnd U o U' L ({ frames := 0, cells := 0, slots := 0, locals := 0 } : Room).cells ({ frames := 0, cells := 0, slots := 0, locals := 0 } : Room).slots) := by
  refine MetFree.of_bodySF (plainFor_of_name pn_BoundedOutput) hisR ?_
  intro p e s m args below meth c s₁ Bd hml0 hP hK
  obtain ⟨rfl, hZ, hh⟩ := hP
  have hx := Bd.exec
  have hby := Bd.bytes
  have hml : c.maxLocals = 2 := hml0
  have hown : s.vm.findClass "com/example/sluice/sluice/protocol/BoundedOutput" = some m.cls := findClass_of_methodNamed Bd.named
  have hnm := (name_of_methodNamed Bd.named Bd.method).1
  have X0 : Stand p l e ({ frames := 0, cells := 0, slots := 0, locals := 0 } : Room) s m #[(.ref r0), (.int p1)] below meth c s₁ [] 0 0 := Stand.of_body Bd
  have e0 : s₁.heap = h0 := by rw [← hh, Bd.state]; rfl
  have N0 := Fr.nil n0
  have pre0 : ∀ t, Steps p.tables e below (s₁.setTop (mkF m 0 #[.val (.ref r0), .val (.int p1)] [])) t → Steps p.tables e below (s₁.setTop (entryFrame m #[(.ref r0), (.int p1)] 2)) t := fun t k => castTop (ef5 m r0 p1) k
  obtain ⟨T25, X25, e25, st25⟩ := getF X0 hx hZ hown (host := "") (Or.inl (hw _ (List.mem_of_getElem? (i := 26) rfl))) Via.refl e0 F2 (g := (mkF m 1 #[.val (.ref r0), .val (.int p1)] [(.ref r0)])) rfl rfl (hb hby d5_1)
  obtain ⟨T26, X26, e26, st26⟩ := getF X25 hx hZ hown (host := "") (Or.inl (hw _ (List.mem_of_getElem? (i := 11) rfl))) Via.refl e25 F3 (g := (mkF m 9 #[.val (.ref r0), .val (.int p1)] [(.ref r0), (.long ((us.toInt64) + (p1.toInt64)))])) rfl rfl (hb hby d5_9)
  have S27 : ∀ t, Steps p.tables e below (T26.setTop (mkF m 14 #[.val (.ref r0), .val (.int p1)] [(.int (XT.cmpL ((us.toInt64) + (p1.toInt64)) (um.toInt64)))])) t → Steps p.tables e below (s₁.setTop (entryFrame m #[(.ref r0), (.int p1)] 2)) t := by
    intro t kt
    refine pre0 _ ?_
    show Steps p.tables e below (s₁.setTop (mkF m 0 #[.val (.ref r0), .val (.int p1)] [])) _
    refine XS.aloadN X0.here hx rfl (hb hby d5_0) rfl rfl ?_
    show Steps p.tables e below (s₁.setTop (mkF m 1 #[.val (.ref r0), .val (.int p1)] [(.ref r0)])) _
    refine st25 _ ?_
    show Steps p.tables e below (T25.setTop (mkF m 4 #[.val (.ref r0), .val (.int p1)] [(.int us)])) _
    refine XS.i2l X25.here hx rfl (hb hby d5_4) rfl ?_
    show Steps p.tables e below (T25.setTop (mkF m 5 #[.val (.ref r0), .val (.int p1)] [(.long (us.toInt64))])) _
    refine XS.iloadN X25.here hx rfl (hb hby d5_5) rfl ?_
    show Steps p.tables e below (T25.setTop (mkF m 6 #[.val (.ref r0), .val (.int p1)] [(.int p1), (.long (us.toInt64))])) _
    refine XS.i2l X25.here hx rfl (hb hby d5_6) rfl ?_
    show Steps p.tables e below (T25.setTop (mkF m 7 #[.val (.ref r0), .val (.int p1)] [(.long (p1.toInt64)), (.long (us.toInt64))])) _
    refine XS.ladd X25.here hx rfl (hb hby d5_7) rfl ?_
    show Steps p.tables e below (T25.setTop (mkF m 8 #[.val (.ref r0), .val (.int p1)] [(.long ((us.toInt64) + (p1.toInt64)))])) _
    refine XS.aloadN X25.here hx rfl (hb hby d5_8) rfl rfl ?_
    show Steps p.tables e below (T25.setTop (mkF m 9 #[.val (.ref r0), .val (.int p1)] [(.ref r0), (.long ((us.toInt64) + (p1.toInt64)))])) _
    refine st26 _ ?_
    show Steps p.tables e below (T26.setTop (mkF m 12 #[.val (.ref r0), .val (.int p1)] [(.int um), (.long ((us.toInt64) + (p1.toInt64)))])) _
    refine XS.i2l X26.here hx rfl (hb hby d5_12) rfl ?_
    show Steps p.tables e below (T26.setTop (mkF m 13 #[.val (.ref r0), .val (.int p1)] [(.long (um.toInt64)), (.long ((us.toInt64) + (p1.toInt64)))])) _
    refine XT.lcmp X26.here hx rfl (hb hby d5_13) rfl ?_
    exact kt
  by_cases hc14_28 : (um.toInt64) < ((us.toInt64) + (p1.toInt64))
  case pos =>
    obtain ⟨fs, hrT, hrunT, hendT, hWT, hsameT⟩ := X26.leave (v := some (.int (0 : Int32))) (fun h => by rw [Bd.returns] at h; cases h)
    refine ⟨_, _, S27 _ ?_, hrunT, hendT, _, _, rfl, ?_, ⟨_, rfl⟩, hWT, hsameT.mono (by decide) (by decide)⟩
    · show Steps p.tables e below (T26.setTop (mkF m 14 #[.val (.ref r0), .val (.int p1)] [(.int (XT.cmpL ((us.toInt64) + (p1.toInt64)) (um.toInt64)))])) _
      refine XS.ifYes X26.here hx rfl (pc0 := 14) (pc' := 21) rfl (hb hby d5_14) rfl (XT.ll_gt_t hc14_28) (by decide) (by decide) ?_
      show Steps p.tables e below (T26.setTop (mkF m 21 #[.val (.ref r0), .val (.int p1)] [])) _
      refine XS.iconst X26.here hx rfl (hb hby d5_21) ?_
      show Steps p.tables e below (T26.setTop (mkF m 22 #[.val (.ref r0), .val (.int p1)] [(.int (0 : Int32))])) _
      exact retN X26 hx (t := .boolean) Bd.returns (by simp) (hb hby d5_22) hrT
    · show Q5 Z r0 p1 us um h0 n0 _ T26.heap _
      rw [e26]
      have hv : f_fits p1 us um = (0 : Int32) := by unfold f_fits; rw [if_pos hc14_28]
      exact ⟨(congrArg (fun z => some (Value.int z)) hv.symm), N0, rfl⟩
  case neg =>
    obtain ⟨fs, hrT, hrunT, hendT, hWT, hsameT⟩ := X26.leave (v := some (.int (1 : Int32))) (fun h => by rw [Bd.returns] at h; cases h)
    refine ⟨_, _, S27 _ ?_, hrunT, hendT, _, _, rfl, ?_, ⟨_, rfl⟩, hWT, hsameT.mono (by decide) (by decide)⟩
    · show Steps p.tables e below (T26.setTop (mkF m 14 #[.val (.ref r0), .val (.int p1)] [(.int (XT.cmpL ((us.toInt64) + (p1.toInt64)) (um.toInt64)))])) _
      refine XS.ifNo X26.here hx rfl (hb hby d5_14) rfl (XT.ll_gt_f hc14_28) ?_
      show Steps p.tables e below (T26.setTop (mkF m 17 #[.val (.ref r0), .val (.int p1)] [])) _
      refine XS.iconst X26.here hx rfl (hb hby d5_17) ?_
      show Steps p.tables e below (T26.setTop (mkF m 18 #[.val (.ref r0), .val (.int p1)] [(.int (1 : Int32))])) _
      refine XS.goto X26.here hx rfl (pc0 := 18) (pc' := 22) rfl (hb hby d5_18) (by decide) (by decide) ?_
      show Steps p.tables e below (T26.setTop (mkF m 22 #[.val (.ref r0), .val (.int p1)] [(.int (1 : Int32))])) _
      exact retN X26 hx (t := .boolean) Bd.returns (by simp) (hb hby d5_22) hrT
    · show Q5 Z r0 p1 us um h0 n0 _ T26.heap _
      rw [e26]
      have hv : f_fits p1 us um = (1 : Int32) := by unfold f_fits; rw [if_neg hc14_28]
      exact ⟨(congrArg (fun z => some (Value.int z)) hv.symm), N0, rfl⟩
theorem own_nz (p : Int32) : ((p &&& (2147483647 : Int32)).toInt64 + (1 : Int64)) ≠ 0 := by
  intro h
  have e1 : (p &&& (2147483647 : Int32)).toInt = p.toInt % 2 ^ 31 := Jvm.Kit.i32_mask p (2147483647 : Int32) (k := 31) (by decide) (by decide)
  have e2 := Jvm.Kit.i64_of_i32 (p &&& (2147483647 : Int32))
  have e3 : ((p &&& (2147483647 : Int32)).toInt64 + (1 : Int64)).toInt = (p &&& (2147483647 : Int32)).toInt64.toInt + (1 : Int64).toInt := Jvm.Kit.i64_add (by rw [show (1 : Int64).toInt = 1 from rfl]; omega) (by rw [show (1 : Int64).toInt = 1 from rfl]; omega)
  rw [h, show (1 : Int64).toInt = 1 from rfl, show (0 : Int64).toInt = 0 from rfl] at e3
  omega
theorem own_mask (p : Int32) : ¬ (p &&& (2147483647 : Int32)) < 0 := by
  have e1 : (p &&& (2147483647 : Int32)).toInt = p.toInt % 2 ^ 31 := Jvm.Kit.i32_mask p (2147483647 : Int32) (k := 31) (by decide) (by decide)
  rw [Int32.lt_iff_toInt_lt, show (0 : Int32).toInt = 0 from rfl]
  omega
theorem own_agree (p : Int32) (q : Int64) (len : Int32) (mx sz : Int32) (h1 : mx = (p &&& (2147483647 : Int32)))
    (h2 : sz = (((q &&& (9223372036854775807 : Int64)) - ((q &&& (9223372036854775807 : Int64)) / (mx.toInt64 + (1 : Int64))) * (mx.toInt64 + (1 : Int64))).toInt32)) :
    f_fits len ((0 : Int32) + sz) mx = (if (mx - sz) < len then (0 : Int32) else (1 : Int32)) := by
  have e1 : (p &&& (2147483647 : Int32)).toInt = p.toInt % 2 ^ 31 := Jvm.Kit.i32_mask p (2147483647 : Int32) (k := 31) (by decide) (by decide)
  rw [← h1] at e1
  have e2 : (q &&& (9223372036854775807 : Int64)).toInt = q.toInt % 2 ^ 63 := Jvm.Kit.i64_mask q (9223372036854775807 : Int64) (k := 63) (by decide) (by decide)
  generalize (q &&& (9223372036854775807 : Int64)) = y at *
  have e3 := Jvm.Kit.i64_of_i32 mx
  have one : (1 : Int64).toInt = 1 := rfl
  have e4 : (mx.toInt64 + (1 : Int64)).toInt = mx.toInt + 1 := by rw [Jvm.Kit.i64_add (by rw [one]; omega) (by rw [one]; omega), one, e3]
  have e5 := Jvm.Kit.i64_rem_nonneg (x := y) (y := mx.toInt64 + (1 : Int64)) (by omega)
  rw [e4] at e5
  have b1 : 0 ≤ y.toInt % (mx.toInt + 1) := Int.emod_nonneg _ (by omega)
  have b2 : y.toInt % (mx.toInt + 1) < mx.toInt + 1 := Int.emod_lt_of_pos _ (by omega)
  have e6 : sz.toInt = y.toInt % (mx.toInt + 1) := by rw [h2, Jvm.Kit.i32_of_i64 (by rw [e5]; omega) (by rw [e5]; omega), e5]
  have z0 : ((0 : Int32) + sz) = sz := Int32.zero_add sz
  rw [z0]
  generalize y.toInt % (mx.toInt + 1) = r at *
  have l1 := len.toInt_lt; have l2 := len.le_toInt
  have e7 : (mx - sz).toInt = mx.toInt - sz.toInt := Jvm.Kit.i32_sub (by omega) (by omega)
  have e8 := Jvm.Kit.i64_of_i32 sz
  have e9 := Jvm.Kit.i64_of_i32 len
  have e10 : (sz.toInt64 + len.toInt64).toInt = sz.toInt64.toInt + len.toInt64.toInt := Jvm.Kit.i64_add (by omega) (by omega)
  unfold f_fits
  by_cases q1 : mx.toInt64 < (sz.toInt64 + len.toInt64)
  · have q2 : (mx - sz) < len := by rw [Int64.lt_iff_toInt_lt] at q1; rw [Int32.lt_iff_toInt_lt]; omega
    rw [if_pos q1, if_pos q2]
  · have q2 : ¬ (mx - sz) < len := by rw [Int64.lt_iff_toInt_lt] at q1; rw [Int32.lt_iff_toInt_lt]; omega
    rw [if_neg q1, if_neg q2]
theorem pd__I_V : parseMethodDescriptor "(I)V" = some ⟨[.int], none⟩ := by decide +kernel
theorem pd__I_Z : parseMethodDescriptor "(I)Z" = some ⟨[.int], some .boolean⟩ := by decide +kernel
theorem pn_BoundedOutputFitsPinLaw : plainName "com/example/sluice/sluice/protocol/BoundedOutputFitsPinLaw" = true := by first | (simp [plainName, overriddenIn]; done) | decide +kernel
theorem ef0 (m : MethodId) (x0 : Int32) (x1 : Int64) (x2 : Int32) : entryFrame m #[(.int x0), (.long x1), (.int x2)] maxLocals = mkF m 0 #[.val (.int x0), .val (.long x1), .second, .val (.int x2), .unset, .unset, .unset, .unset] [] := by first | (simp [entryFrame, mkF, argsToLocals, Value.category, maxLocals]; done) | rfl
def Q0 (Z : State) (p0 : Int32) (q1 : Int64) (p2 : Int32) (h0 : Heap) (n0 : Nat) (v : Option Value) (h : Heap) (L : List Loc) : Prop := v = some (.int (1 : Int32)) ∧ Fr n0 L
set_option maxRecDepth 65536 in
set_option maxHeartbeats 40000000 in
theorem rm0 (l : Launch) (Z : State) (a0 : Array Value) (hw : ∀ d ∈ tables_1, d.before a0 Z = true) (ws : List Jvm.Cond) (p0 : Int32) (q1 : Int64) (p2 : Int32) (h0 : Heap) (n0 : Nat) (Z0 : n0 ≤ h0.size) :
    MetFree l x (head1 (Jvm.Cond.code x code maxLocals ret :: ws) room_1) (fun a U => a = #[(.int p0), (.long q1), (.int p2)] ∧ Z.Warmed39 U.vm ∧ U.heap = h0) (fun _ _ _ _ _ => True) (fun _ U o U' => ∃ v L, o = .returned v ∧ Q0 Z p0 q1 p2 h0 n0 v U'.heap L ∧ FrameEnd U o U' L room_1.cells room_1.slots) := by
  refine MetFree.of_bodySF (plainFor_of_name pn_BoundedOutputFitsPinLaw) hisR ?_
  intro p e s m args below meth c s₁ Bd hml0 hP hK
  obtain ⟨rfl, hZ, hh⟩ := hP
  have hx := Bd.exec
  have hby := Bd.bytes
  have hml : c.maxLocals = 8 := hml0
  have hown : s.vm.findClass "com/example/sluice/sluice/protocol/BoundedOutputFitsPinLaw" = some m.cls := findClass_of_methodNamed Bd.named
  have hnm := (name_of_methodNamed Bd.named Bd.method).1
  have X0 : Stand p l e room_1 s m #[(.int p0), (.long q1), (.int p2)] below meth c s₁ [] 0 0 := Stand.of_body Bd
  have e0 : s₁.heap = h0 := by rw [← hh, Bd.state]; rfl
  have N0 := Fr.nil n0
  have pre0 : ∀ t, Steps p.tables e below (s₁.setTop (mkF m 0 #[.val (.int p0), .val (.long q1), .second, .val (.int p2), .unset, .unset, .unset, .unset] [])) t → Steps p.tables e below (s₁.setTop (entryFrame m #[(.int p0), (.long q1), (.int p2)] maxLocals)) t := fun t k => castTop (ef0 m p0 q1 p2) k
  have S29 : ∀ t, Steps p.tables e below (s₁.setTop (mkF m 6 #[.val (.int p0), .val (.long q1), .second, .val (.int p2), .val (.int (p0 &&& (2147483647 : Int32))), .unset, .unset, .unset] [])) t → Steps p.tables e below (s₁.setTop (entryFrame m #[(.int p0), (.long q1), (.int p2)] maxLocals)) t := by
    intro t kt
    refine pre0 _ ?_
    show Steps p.tables e below (s₁.setTop (mkF m 0 #[.val (.int p0), .val (.long q1), .second, .val (.int p2), .unset, .unset, .unset, .unset] [])) _
    refine XS.iloadN X0.here hx rfl (hb hby at_0) rfl ?_
    show Steps p.tables e below (s₁.setTop (mkF m 1 #[.val (.int p0), .val (.long q1), .second, .val (.int p2), .unset, .unset, .unset, .unset] [(.int p0)])) _
    refine X0.ldcInt hx hown (mvT hZ (hw _ (List.mem_of_getElem? (i := 0) rfl))) (g := (mkF m 1 #[.val (.int p0), .val (.long q1), .second, .val (.int p2), .unset, .unset, .unset, .unset] [(.int p0)])) rfl (hb hby at_1) _ ?_
    show Steps p.tables e below (s₁.setTop (mkF m 3 #[.val (.int p0), .val (.long q1), .second, .val (.int p2), .unset, .unset, .unset, .unset] [(.int (2147483647 : Int32)), (.int p0)])) _
    refine XS.iand X0.here hx rfl (hb hby at_3) rfl ?_
    show Steps p.tables e below (s₁.setTop (mkF m 4 #[.val (.int p0), .val (.long q1), .second, .val (.int p2), .unset, .unset, .unset, .unset] [(.int (p0 &&& (2147483647 : Int32)))])) _
    refine XS.istore X0.here hx rfl (hb hby at_4) rfl (l' := #[.val (.int p0), .val (.long q1), .second, .val (.int p2), .val (.int (p0 &&& (2147483647 : Int32))), .unset, .unset, .unset]) rfl ?_
    exact kt
  obtain ⟨mx, hd_mx⟩ : ∃ z, z = (p0 &&& (2147483647 : Int32)) := ⟨_, rfl⟩
  rw [← hd_mx] at S29
  have S30 : ∀ t, Steps p.tables e below (s₁.setTop (mkF m 20 #[.val (.int p0), .val (.long q1), .second, .val (.int p2), .val (.int mx), .val (.int (((q1 &&& (9223372036854775807 : Int64)) - ((q1 &&& (9223372036854775807 : Int64)) / ((mx.toInt64) + (1 : Int64))) * ((mx.toInt64) + (1 : Int64))).toInt32)), .unset, .unset] [])) t → Steps p.tables e below (s₁.setTop (entryFrame m #[(.int p0), (.long q1), (.int p2)] maxLocals)) t := by
    intro t kt
    refine S29 _ ?_
    show Steps p.tables e below (s₁.setTop (mkF m 6 #[.val (.int p0), .val (.long q1), .second, .val (.int p2), .val (.int mx), .unset, .unset, .unset] [])) _
    refine XS.lloadN X0.here hx rfl (hb hby at_6) rfl ?_
    show Steps p.tables e below (s₁.setTop (mkF m 7 #[.val (.int p0), .val (.long q1), .second, .val (.int p2), .val (.int mx), .unset, .unset, .unset] [(.long q1)])) _
    refine X0.ldc2Long hx hown (mvT hZ (hw _ (List.mem_of_getElem? (i := 1) rfl))) (g := (mkF m 7 #[.val (.int p0), .val (.long q1), .second, .val (.int p2), .val (.int mx), .unset, .unset, .unset] [(.long q1)])) rfl (hb hby at_7) _ ?_
    show Steps p.tables e below (s₁.setTop (mkF m 10 #[.val (.int p0), .val (.long q1), .second, .val (.int p2), .val (.int mx), .unset, .unset, .unset] [(.long (9223372036854775807 : Int64)), (.long q1)])) _
    refine XS.land X0.here hx rfl (hb hby at_10) rfl ?_
    show Steps p.tables e below (s₁.setTop (mkF m 11 #[.val (.int p0), .val (.long q1), .second, .val (.int p2), .val (.int mx), .unset, .unset, .unset] [(.long (q1 &&& (9223372036854775807 : Int64)))])) _
    refine XS.iload X0.here hx rfl (hb hby at_11) rfl ?_
    show Steps p.tables e below (s₁.setTop (mkF m 13 #[.val (.int p0), .val (.long q1), .second, .val (.int p2), .val (.int mx), .unset, .unset, .unset] [(.int mx), (.long (q1 &&& (9223372036854775807 : Int64)))])) _
    refine XS.i2l X0.here hx rfl (hb hby at_13) rfl ?_
    show Steps p.tables e below (s₁.setTop (mkF m 14 #[.val (.int p0), .val (.long q1), .second, .val (.int p2), .val (.int mx), .unset, .unset, .unset] [(.long (mx.toInt64)), (.long (q1 &&& (9223372036854775807 : Int64)))])) _
    refine XS.lconst X0.here hx rfl (hb hby at_14) ?_
    show Steps p.tables e below (s₁.setTop (mkF m 15 #[.val (.int p0), .val (.long q1), .second, .val (.int p2), .val (.int mx), .unset, .unset, .unset] [(.long (1 : Int64)), (.long (mx.toInt64)), (.long (q1 &&& (9223372036854775807 : Int64)))])) _
    refine XS.ladd X0.here hx rfl (hb hby at_15) rfl ?_
    show Steps p.tables e below (s₁.setTop (mkF m 16 #[.val (.int p0), .val (.long q1), .second, .val (.int p2), .val (.int mx), .unset, .unset, .unset] [(.long ((mx.toInt64) + (1 : Int64))), (.long (q1 &&& (9223372036854775807 : Int64)))])) _
    refine XS.lrem X0.here hx rfl (hb hby at_16) rfl (by rw [hd_mx]; exact own_nz p0) ?_
    show Steps p.tables e below (s₁.setTop (mkF m 17 #[.val (.int p0), .val (.long q1), .second, .val (.int p2), .val (.int mx), .unset, .unset, .unset] [(.long ((q1 &&& (9223372036854775807 : Int64)) - ((q1 &&& (9223372036854775807 : Int64)) / ((mx.toInt64) + (1 : Int64))) * ((mx.toInt64) + (1 : Int64))))])) _
    refine XS.l2i X0.here hx rfl (hb hby at_17) rfl ?_
    show Steps p.tables e below (s₁.setTop (mkF m 18 #[.val (.int p0), .val (.long q1), .second, .val (.int p2), .val (.int mx), .unset, .unset, .unset] [(.int (((q1 &&& (9223372036854775807 : Int64)) - ((q1 &&& (9223372036854775807 : Int64)) / ((mx.toInt64) + (1 : Int64))) * ((mx.toInt64) + (1 : Int64))).toInt32))])) _
    refine XS.istore X0.here hx rfl (hb hby at_18) rfl (l' := #[.val (.int p0), .val (.long q1), .second, .val (.int p2), .val (.int mx), .val (.int (((q1 &&& (9223372036854775807 : Int64)) - ((q1 &&& (9223372036854775807 : Int64)) / ((mx.toInt64) + (1 : Int64))) * ((mx.toInt64) + (1 : Int64))).toInt32)), .unset, .unset]) rfl ?_
    exact kt
  obtain ⟨sz, hd_sz⟩ : ∃ z, z = (((q1 &&& (9223372036854775807 : Int64)) - ((q1 &&& (9223372036854775807 : Int64)) / ((mx.toInt64) + (1 : Int64))) * ((mx.toInt64) + (1 : Int64))).toInt32) := ⟨_, rfl⟩
  rw [← hd_sz] at S30
  obtain ⟨T31, h31, X31, e31, E31, A31, D31, -, st31⟩ := newO X0 hx hZ hown (hw _ (List.mem_of_getElem? (i := 2) rfl)) (hw _ (List.mem_of_getElem? (i := 3) rfl)) (hw _ (List.mem_of_getElem? (i := 4) rfl)) e0 (g := (mkF m 20 #[.val (.int p0), .val (.long q1), .second, .val (.int p2), .val (.int mx), .val (.int sz), .unset, .unset] [])) rfl (hb hby at_20) (by decide) (by decide)
  obtain ⟨b31, g31⟩ : ∃ z, z = h0.size := ⟨_, rfl⟩
  rw [← g31] at A31 D31 st31
  have ge_b31 : n0 ≤ b31 := Nat.le_trans Z0 (Nat.le_of_eq g31.symm)
  have sz_b31 : h0.size ≤ b31 := Nat.le_of_eq g31.symm
  have K32 : Keep h0 h31 [] := (Keep.refl h0 []).ext E31
  have F33 : Fld Z h31 b31 "com/example/sluice/sluice/protocol/BoundedOutput" "maxBytes" "I" (.int (0 : Int32)) := D31 (Or.inr (hw _ (List.mem_of_getElem? (i := 12) rfl))) (ty := .int) (by decide)
  have F34 : Fld Z h31 b31 "com/example/sluice/sluice/protocol/BoundedOutput" "bytes" "[B" .null := D31 (Or.inl (hw _ (List.mem_of_getElem? (i := 20) rfl))) (ty := (.array .byte)) (by decide)
  have F35 : Fld Z h31 b31 "com/example/sluice/sluice/protocol/BoundedOutput" "size" "I" (.int (0 : Int32)) := D31 (Or.inl (hw _ (List.mem_of_getElem? (i := 27) rfl))) (ty := .int) (by decide)
  obtain ⟨_, _, ⟨T36, L36, k36, n36⟩, -, X36, ⟨Lc36, hQ36, l36, y36, z36⟩, st36⟩ := X31.specialBack hx (y := (⟨"com/example/sluice/sluice/protocol/BoundedOutput", "<init>", "(I)V"⟩ : MethodName)) rfl hown (mvT hZ (hw _ (List.mem_of_getElem? (i := 5) rfl))) (mvT hZ (hw _ (List.mem_of_getElem? (i := 6) rfl))) (mvT hZ (hw _ (List.mem_of_getElem? (i := 7) rfl))) (by decide) (backOf (W := 1) (rm1 l Z a0 hw [] b31 mx h31 n0 (Nat.le_trans Z0 K32.1) (by rw [hd_mx]; exact own_mask p0) F34 F35 F33 A31 ge_b31) hZ (hw _ (List.mem_of_getElem? (i := 7) rfl)) (hw _ (List.mem_of_getElem? (i := 4) rfl)) (by decide) (by decide)) (g := (mkF m 26 #[.val (.int p0), .val (.long q1), .second, .val (.int p2), .val (.int mx), .val (.int sz), .unset, .unset] [(.int mx), (.ref b31), (.ref b31)])) rfl (by rw [hml]; rfl) (Steps.refl _) (a := b31) (argsL := [(.int mx)]) (rest := [(.ref b31)]) (lenOf pd__I_V rfl) rfl (by show 2 * 0 + _ ≤ _; exact Nat.le_of_eq rfl) (hb hby at_26) (fun _ _ => ⟨rfl, e31, (by decide : 1 + 1 ≤ _), (by decide : 3 + 65536 ≤ _)⟩)
  dsimp only [Pt.U, Pt.locs, Pt.cells, Pt.slots] at X36 l36 y36 z36 st36 hQ36
  subst l36 y36 z36
  obtain ⟨rfl, Nq36, Kq36, f36_0, f36_1⟩ := hQ36
  have K37 : Keep h0 T36.heap [] := K32.trans Kq36 (fun x hx => by cases List.mem_singleton.mp hx; exact Or.inr sz_b31)
  have N36 := Fr.app N0 Nq36
  have c38 : Exa Z T36.heap b31 "com/example/sluice/sluice/protocol/BoundedOutput" := (A31.keep Kq36)
  obtain ⟨cq39, kq39, q39a, q39b, q39c⟩ := isOf hZ rfl c38
  obtain ⟨_, _, ⟨T39, L39, k39, n39⟩, -, X39, ⟨Lc39, hQ39, l39, y39, z39⟩, st39⟩ := X36.virtualBack hx (y := (⟨"com/example/sluice/sluice/protocol/BoundedOutput", "written", "(I)V"⟩ : MethodName)) (z := (⟨"com/example/sluice/sluice/protocol/BoundedOutput", "written", "(I)V"⟩ : MethodName)) hown (mvT hZ (hw _ (List.mem_of_getElem? (i := 21) rfl))) (mvT hZ (hw _ (List.mem_of_getElem? (i := 22) rfl))) (notFace_of_selects (args := #[]) (mvT hZ (hw _ (List.mem_of_getElem? (i := 24) rfl)))) (mvT hZ (hw _ (List.mem_of_getElem? (i := 24) rfl))) (mvT hZ (hw _ (List.mem_of_getElem? (i := 23) rfl))) (by decide) (backOf (W := 0) (rm4 l Z a0 hw [] b31 sz (0 : Int32) mx T36.heap n0 (Nat.le_trans Z0 K37.1) f36_0 f36_1 c38 ge_b31) hZ (hw _ (List.mem_of_getElem? (i := 25) rfl)) (hw _ (List.mem_of_getElem? (i := 4) rfl)) (by decide) (by decide)) q39a q39c (g := (mkF m 35 #[.val (.int p0), .val (.long q1), .second, .val (.int p2), .val (.int mx), .val (.int sz), .val (.ref b31), .unset] [(.int sz), (.ref b31)])) rfl (by rw [hml]; rfl) (Steps.refl _) (argsL := [(.int sz)]) (rest := []) (lenOf pd__I_V rfl) rfl (by show 2 * 0 + _ ≤ _; exact Nat.le_of_eq rfl) (hb hby at_35) (fun _ _ => ⟨rfl, rfl, (by decide : 2 + 0 ≤ _), (by decide : 65539 + 0 ≤ _)⟩)
  dsimp only [Pt.U, Pt.locs, Pt.cells, Pt.slots] at X39 l39 y39 z39 st39 hQ39
  subst l39 y39 z39
  obtain ⟨rfl, Nq39, Kq39, f39_0, f39_1⟩ := hQ39
  have K40 : Keep h0 T39.heap [] := K37.trans Kq39 (fun x hx => by cases List.mem_singleton.mp hx; exact Or.inr sz_b31)
  have N39 := Fr.app N36 Nq39
  have S41 : ∀ t, Steps p.tables e below (T39.setTop (mkF m 44 #[.val (.int p0), .val (.long q1), .second, .val (.int p2), .val (.int mx), .val (.int sz), .val (.ref b31), .unset] [(.int (mx - sz)), (.int p2)])) t → Steps p.tables e below (s₁.setTop (entryFrame m #[(.int p0), (.long q1), (.int p2)] maxLocals)) t := by
    intro t kt
    refine S30 _ ?_
    show Steps p.tables e below (s₁.setTop (mkF m 20 #[.val (.int p0), .val (.long q1), .second, .val (.int p2), .val (.int mx), .val (.int sz), .unset, .unset] [])) _
    refine st31 _ ?_
    show Steps p.tables e below (T31.setTop (mkF m 23 #[.val (.int p0), .val (.long q1), .second, .val (.int p2), .val (.int mx), .val (.int sz), .unset, .unset] [(.ref b31)])) _
    refine XS.dup X31.here hx rfl (hb hby at_23) rfl rfl ?_
    show Steps p.tables e below (T31.setTop (mkF m 24 #[.val (.int p0), .val (.long q1), .second, .val (.int p2), .val (.int mx), .val (.int sz), .unset, .unset] [(.ref b31), (.ref b31)])) _
    refine XS.iload X31.here hx rfl (hb hby at_24) rfl ?_
    show Steps p.tables e below (T31.setTop (mkF m 26 #[.val (.int p0), .val (.long q1), .second, .val (.int p2), .val (.int mx), .val (.int sz), .unset, .unset] [(.int mx), (.ref b31), (.ref b31)])) _
    refine st36.trans ?_
    show Steps p.tables e below (T36.setTop (mkF m 29 #[.val (.int p0), .val (.long q1), .second, .val (.int p2), .val (.int mx), .val (.int sz), .unset, .unset] [(.ref b31)])) _
    refine XS.astore X36.here hx rfl (hb hby at_29) rfl rfl (l' := #[.val (.int p0), .val (.long q1), .second, .val (.int p2), .val (.int mx), .val (.int sz), .val (.ref b31), .unset]) rfl ?_
    show Steps p.tables e below (T36.setTop (mkF m 31 #[.val (.int p0), .val (.long q1), .second, .val (.int p2), .val (.int mx), .val (.int sz), .val (.ref b31), .unset] [])) _
    refine XS.aload X36.here hx rfl (hb hby at_31) rfl rfl ?_
    show Steps p.tables e below (T36.setTop (mkF m 33 #[.val (.int p0), .val (.long q1), .second, .val (.int p2), .val (.int mx), .val (.int sz), .val (.ref b31), .unset] [(.ref b31)])) _
    refine XS.iload X36.here hx rfl (hb hby at_33) rfl ?_
    show Steps p.tables e below (T36.setTop (mkF m 35 #[.val (.int p0), .val (.long q1), .second, .val (.int p2), .val (.int mx), .val (.int sz), .val (.ref b31), .unset] [(.int sz), (.ref b31)])) _
    refine st39.trans ?_
    show Steps p.tables e below (T39.setTop (mkF m 38 #[.val (.int p0), .val (.long q1), .second, .val (.int p2), .val (.int mx), .val (.int sz), .val (.ref b31), .unset] [])) _
    refine XS.iloadN X39.here hx rfl (hb hby at_38) rfl ?_
    show Steps p.tables e below (T39.setTop (mkF m 39 #[.val (.int p0), .val (.long q1), .second, .val (.int p2), .val (.int mx), .val (.int sz), .val (.ref b31), .unset] [(.int p2)])) _
    refine XS.iload X39.here hx rfl (hb hby at_39) rfl ?_
    show Steps p.tables e below (T39.setTop (mkF m 41 #[.val (.int p0), .val (.long q1), .second, .val (.int p2), .val (.int mx), .val (.int sz), .val (.ref b31), .unset] [(.int mx), (.int p2)])) _
    refine XS.iload X39.here hx rfl (hb hby at_41) rfl ?_
    show Steps p.tables e below (T39.setTop (mkF m 43 #[.val (.int p0), .val (.long q1), .second, .val (.int p2), .val (.int mx), .val (.int sz), .val (.ref b31), .unset] [(.int sz), (.int mx), (.int p2)])) _
    refine XS.isub X39.here hx rfl (hb hby at_43) rfl ?_
    exact kt
  have S43 : ∀ t, Steps p.tables e below (T39.setTop (mkF m 52 #[.val (.int p0), .val (.long q1), .second, .val (.int p2), .val (.int mx), .val (.int sz), .val (.ref b31), .unset] [(.int (if (mx - sz) < p2 then (0 : Int32) else (1 : Int32)))])) t → Steps p.tables e below (s₁.setTop (entryFrame m #[(.int p0), (.long q1), (.int p2)] maxLocals)) t := by
    intro t kt
    refine S41 _ ?_
    by_cases hc44_42 : (mx - sz) < p2
    case pos =>
      rw [(if_pos hc44_42 : (if (mx - sz) < p2 then (0 : Int32) else (1 : Int32)) = (0 : Int32))] at kt
      show Steps p.tables e below (T39.setTop (mkF m 44 #[.val (.int p0), .val (.long q1), .second, .val (.int p2), .val (.int mx), .val (.int sz), .val (.ref b31), .unset] [(.int (mx - sz)), (.int p2)])) _
      refine XS.icmpYes X39.here hx rfl (pc0 := 44) (pc' := 51) rfl (hb hby at_44) rfl (XT.ii_gt_t hc44_42) (by decide) (by decide) ?_
      show Steps p.tables e below (T39.setTop (mkF m 51 #[.val (.int p0), .val (.long q1), .second, .val (.int p2), .val (.int mx), .val (.int sz), .val (.ref b31), .unset] [])) _
      refine XS.iconst X39.here hx rfl (hb hby at_51) ?_
      exact kt
    case neg =>
      rw [(if_neg hc44_42 : (if (mx - sz) < p2 then (0 : Int32) else (1 : Int32)) = (1 : Int32))] at kt
      show Steps p.tables e below (T39.setTop (mkF m 44 #[.val (.int p0), .val (.long q1), .second, .val (.int p2), .val (.int mx), .val (.int sz), .val (.ref b31), .unset] [(.int (mx - sz)), (.int p2)])) _
      refine XS.icmpNo X39.here hx rfl (hb hby at_44) rfl (XT.ii_gt_f hc44_42) ?_
      show Steps p.tables e below (T39.setTop (mkF m 47 #[.val (.int p0), .val (.long q1), .second, .val (.int p2), .val (.int mx), .val (.int sz), .val (.ref b31), .unset] [])) _
      refine XS.iconst X39.here hx rfl (hb hby at_47) ?_
      show Steps p.tables e below (T39.setTop (mkF m 48 #[.val (.int p0), .val (.long q1), .second, .val (.int p2), .val (.int mx), .val (.int sz), .val (.ref b31), .unset] [(.int (1 : Int32))])) _
      refine XS.goto X39.here hx rfl (pc0 := 48) (pc' := 52) rfl (hb hby at_48) (by decide) (by decide) ?_
      exact kt
  have c44 : Exa Z T39.heap b31 "com/example/sluice/sluice/protocol/BoundedOutput" := (c38.keep Kq39)
  obtain ⟨cq45, kq45, q45a, q45b, q45c⟩ := isOf hZ rfl c44
  obtain ⟨_, _, ⟨T45, L45, k45, n45⟩, -, X45, ⟨Lc45, hQ45, l45, y45, z45⟩, st45⟩ := X39.virtualBack hx (y := (⟨"com/example/sluice/sluice/protocol/BoundedOutput", "fits", "(I)Z"⟩ : MethodName)) (z := (⟨"com/example/sluice/sluice/protocol/BoundedOutput", "fits", "(I)Z"⟩ : MethodName)) hown (mvT hZ (hw _ (List.mem_of_getElem? (i := 28) rfl))) (mvT hZ (hw _ (List.mem_of_getElem? (i := 29) rfl))) (notFace_of_selects (args := #[]) (mvT hZ (hw _ (List.mem_of_getElem? (i := 31) rfl)))) (mvT hZ (hw _ (List.mem_of_getElem? (i := 31) rfl))) (mvT hZ (hw _ (List.mem_of_getElem? (i := 30) rfl))) (by decide) (backOf (W := 0) (rm5 l Z a0 hw [] b31 p2 ((0 : Int32) + sz) mx T39.heap n0 (Nat.le_trans Z0 K40.1) f39_0 f39_1) hZ (hw _ (List.mem_of_getElem? (i := 32) rfl)) (hw _ (List.mem_of_getElem? (i := 4) rfl)) (by decide) (by decide)) q45a q45c (g := (mkF m 57 #[.val (.int p0), .val (.long q1), .second, .val (.int p2), .val (.int mx), .val (.int sz), .val (.ref b31), .val (.int (if (mx - sz) < p2 then (0 : Int32) else (1 : Int32)))] [(.int p2), (.ref b31)])) rfl (by rw [hml]; rfl) (Steps.refl _) (argsL := [(.int p2)]) (rest := []) (lenOf pd__I_Z rfl) rfl (by show 2 * 0 + _ ≤ _; exact Nat.le_of_eq rfl) (hb hby at_57) (fun _ _ => ⟨rfl, rfl, (by decide : 2 + 0 ≤ _), (by decide : 65539 + 0 ≤ _)⟩)
  dsimp only [Pt.U, Pt.locs, Pt.cells, Pt.slots] at X45 l45 y45 z45 st45 hQ45
  subst l45 y45 z45
  obtain ⟨rfl, Nq45, e45⟩ := hQ45
  have N45 := Fr.app N39 Nq45
  obtain ⟨fs, hrT, hrunT, hendT, hWT, hsameT⟩ := X45.leave (v := some (.int (1 : Int32))) (fun h => by rw [Bd.returns] at h; cases h)
  refine ⟨_, _, S43 _ ?_, hrunT, hendT, _, _, rfl, ?_, ⟨_, rfl⟩, hWT, hsameT.mono (by decide) (by decide)⟩
  · show Steps p.tables e below (T39.setTop (mkF m 52 #[.val (.int p0), .val (.long q1), .second, .val (.int p2), .val (.int mx), .val (.int sz), .val (.ref b31), .unset] [(.int (if (mx - sz) < p2 then (0 : Int32) else (1 : Int32)))])) _
    refine XS.istore X39.here hx rfl (hb hby at_52) rfl (l' := #[.val (.int p0), .val (.long q1), .second, .val (.int p2), .val (.int mx), .val (.int sz), .val (.ref b31), .val (.int (if (mx - sz) < p2 then (0 : Int32) else (1 : Int32)))]) rfl ?_
    show Steps p.tables e below (T39.setTop (mkF m 54 #[.val (.int p0), .val (.long q1), .second, .val (.int p2), .val (.int mx), .val (.int sz), .val (.ref b31), .val (.int (if (mx - sz) < p2 then (0 : Int32) else (1 : Int32)))] [])) _
    refine XS.aload X39.here hx rfl (hb hby at_54) rfl rfl ?_
    show Steps p.tables e below (T39.setTop (mkF m 56 #[.val (.int p0), .val (.long q1), .second, .val (.int p2), .val (.int mx), .val (.int sz), .val (.ref b31), .val (.int (if (mx - sz) < p2 then (0 : Int32) else (1 : Int32)))] [(.ref b31)])) _
    refine XS.iloadN X39.here hx rfl (hb hby at_56) rfl ?_
    show Steps p.tables e below (T39.setTop (mkF m 57 #[.val (.int p0), .val (.long q1), .second, .val (.int p2), .val (.int mx), .val (.int sz), .val (.ref b31), .val (.int (if (mx - sz) < p2 then (0 : Int32) else (1 : Int32)))] [(.int p2), (.ref b31)])) _
    refine st45.trans ?_
    show Steps p.tables e below (T45.setTop (mkF m 60 #[.val (.int p0), .val (.long q1), .second, .val (.int p2), .val (.int mx), .val (.int sz), .val (.ref b31), .val (.int (if (mx - sz) < p2 then (0 : Int32) else (1 : Int32)))] [(.int (f_fits p2 ((0 : Int32) + sz) mx))])) _
    refine XS.iload X45.here hx rfl (hb hby at_60) rfl ?_
    show Steps p.tables e below (T45.setTop (mkF m 62 #[.val (.int p0), .val (.long q1), .second, .val (.int p2), .val (.int mx), .val (.int sz), .val (.ref b31), .val (.int (if (mx - sz) < p2 then (0 : Int32) else (1 : Int32)))] [(.int (if (mx - sz) < p2 then (0 : Int32) else (1 : Int32))), (.int (f_fits p2 ((0 : Int32) + sz) mx))])) _
    refine XS.icmpNo X45.here hx rfl (hb hby at_62) rfl (XT.ii_ne_f (own_agree p0 q1 p2 mx sz hd_mx hd_sz)) ?_
    show Steps p.tables e below (T45.setTop (mkF m 65 #[.val (.int p0), .val (.long q1), .second, .val (.int p2), .val (.int mx), .val (.int sz), .val (.ref b31), .val (.int (if (mx - sz) < p2 then (0 : Int32) else (1 : Int32)))] [])) _
    refine XS.iconst X45.here hx rfl (hb hby at_65) ?_
    show Steps p.tables e below (T45.setTop (mkF m 66 #[.val (.int p0), .val (.long q1), .second, .val (.int p2), .val (.int mx), .val (.int sz), .val (.ref b31), .val (.int (if (mx - sz) < p2 then (0 : Int32) else (1 : Int32)))] [(.int (1 : Int32))])) _
    refine XS.goto X45.here hx rfl (pc0 := 66) (pc' := 70) rfl (hb hby at_66) (by decide) (by decide) ?_
    show Steps p.tables e below (T45.setTop (mkF m 70 #[.val (.int p0), .val (.long q1), .second, .val (.int p2), .val (.int mx), .val (.int sz), .val (.ref b31), .val (.int (if (mx - sz) < p2 then (0 : Int32) else (1 : Int32)))] [(.int (1 : Int32))])) _
    exact retN X45 hx (t := .boolean) Bd.returns (by simp) (hb hby at_70) hrT
  · show Q0 Z p0 q1 p2 h0 n0 _ T45.heap _
    rw [e45]
    exact ⟨rfl, N45⟩
set_option maxRecDepth 65536 in
set_option maxHeartbeats 40000000 in
theorem comes_1 {Post : Tables → Env → Array Value → State → Outcome → State → Prop} (hpost : ∀ tb e args s v u, (limb_1_1.after args s (.returned v) u = true ∧ limb_1_2.after args s (.returned v) u = true ∧ True) → FrameEnd s (.returned v) u (Jvm.fieldLocs frame_1_writes args s ++ Jvm.arrayLocs frame_1_arrays args s ++ Jvm.staticLocs frame_1_statics s) 16 131200 → Post tb e args s (.returned v) u) :
    ArmFor flags0 classFile x code maxLocals ret World_1 tables_1 room_1 Calls_1 rest_1 Pre_1 Post := by
  intro l hfl _ _ p e ha hc hk s m args below hf hA hF happ hP
  obtain ⟨hcalls, hrest, hpre⟩ := hP
  obtain ⟨-, -, -, hnamed, -, -, -, hat⟩ := (Spec.applies_iff hf).mp happ
  obtain ⟨hg, hn⟩ := and_e (Cond.before_iff.mp (show (Jvm.Cond.and given_1 narrow_1).before args s = true from hpre))
  obtain ⟨gc, gr0⟩ := and_e hg
  obtain ⟨ga0, gr1⟩ := and_e gr0
  obtain ⟨ga1, gr2⟩ := and_e gr1
  have ga2 := gr2
  obtain ⟨w0, w1, w2, rfl⟩ : ∃ w0 w1 w2 : Value, args = #[w0, w1, w2] := by
    have hs : args.size = 3 := by simpa [Cond.value, given_1] using gc
    obtain ⟨L⟩ := args
    match L, hs with
    | [w0, w1, w2], _ => exact ⟨w0, w1, w2, rfl⟩
  have hw := fun d (hd : d ∈ tables_1) => atoms_spec (ws := Jvm.Cond.code x code maxLocals ret :: tables_1) hat d (List.mem_cons_of_mem _ hd)
  have hfit : Fit s := fun {y c} hc i hi => by
    obtain ⟨ha, rfl⟩ := Array.getElem?_eq_some_iff.mp hc
    have q := List.all_eq_true.mp ((Array.all_eq_true_iff_forall_mem.mp hF) _ (Array.getElem_mem ha)) i (List.mem_range.mpr hi)
    simpa [Array.getElem?_eq_getElem hi] using q
  obtain ⟨i0, ei0⟩ := is_v ga0
  obtain rfl : w0 = (.int i0) := Option.some.inj ei0
  obtain ⟨i1, ei1⟩ := isL_v ga1
  obtain rfl : w1 = (.long i1) := Option.some.inj ei1
  obtain ⟨i2, ei2⟩ := is_v ga2
  obtain rfl : w2 = (.int i2) := Option.some.inj ei2
  obtain ⟨n, o, h1, h2, h3, _, L, rfl, ⟨rfl, N⟩, hq⟩ := rm0 l s _ hw tables_1 i0 i1 i2 s.heap s.heap.size (Nat.le_refl _)  p e ha hc hk s m _ below hf ((Spec.applies_iff_loose hf).mp happ).1 ⟨rfl, State.Warmed39.refl s, rfl⟩ trivial
  refine ⟨n, _, h1, h2, h3, hpost _ _ _ _ _ _ ⟨Cond.after_iff.mpr rfl, Cond.after_iff.mpr (eq_i res_at (Term.int_eval (1)) rfl), trivial⟩ ⟨hq.1, hq.2.1, (hq.2.2.sift fun y hy => Or.inr (N y hy)).mono (by decide) (by decide)⟩⟩
theorem main_1_1 : Claimed_1_1 := comes_1 fun _ _ _ _ _ _ h hF => ⟨h.1, hF⟩
theorem main_1_2 : Claimed_1_2 := comes_1 fun _ _ _ _ _ _ h hF => ⟨h.2.1, hF⟩
end Jvm.Pilot.@@N@@
namespace Jvm.Pilot.@@N@@
open Jvm Jvm.ClassFile Sem Op Lib Jvm.Free Jvm.Stand Jvm.Pilot.@@N@@.Jvm.D
/-! MADE BY PROGRAM (witnessworld.py) out of the Statement's table words and the real class files: 10 classes; the members and pool entries that the words name. The judged class is class 1, her method 1. -/
namespace start1
open Jvm.ClassFile
def u (s : String) : CpInfo := .utf8 (stringToUtf16 s)
/-- a pool by its gaps: so many unusable entries, then the entry; so many at the end -/
def gap : Nat → List CpInfo → List CpInfo
  | 0, r => r
  | n + 1, r => .unusable :: gap n r
def poolList (es : List (Nat × CpInfo)) (last : Nat) : List CpInfo := es.foldr (fun e r => gap e.1 (e.2 :: r)) (gap last [])
def pool (es : List (Nat × CpInfo)) (last : Nat) : Array CpInfo := ⟨poolList es last⟩
def fileOf (pool : Array CpInfo) (this : Nat) (attrs : Array Attribute := #[]) (ms : Array MethodInfo := #[]) (fl : Nat := 33) (sup : Nat := 0) (ifs : Array Nat := #[]) (fds : Array FieldInfo := #[]) : ClassFile where
  minorVersion := 0
  majorVersion := 65
  constantPool := pool
  accessFlags := fl
  thisClass := this
  superClass := sup
  interfaces := ifs
  fields := fds
  methods := ms
  attributes := attrs
def plain (name : String) (sup : Option ClassId) : Class where
  name := name
  kind := .ordinary
  loader := none
  accessFlags := 33
  super := sup
  interfaces := #[]
  cf := none
  fields := #[]
  methods := #[]
  instanceTypes := #[]
  staticTypes := #[]
  resolved := #[]
  callSites := []
  init := .initialized
  statics := none
  mirror := none

def pool0 : Array CpInfo := pool [(5, u "<init>"), (0, u "()V"), (1, .class_ 10), (1, u "java/lang/Object")] 113

def k0c0 : Code := { maxStack := 0, maxLocals := 1, code := object_method_1_code, exceptionTable := #[], attributes := #[] }
def k0m0 : Method := { name := "<init>", desc := "()V", sig := { parameters := [], returnType := none }, accessFlags := 1, code := some k0c0 }
/-- java/lang/Object -/
def k0 : Class := { plain "java/lang/Object" none with
  accessFlags := 33
  interfaces := #[]
  cf := some (fileOf pool0 8 #[] #[{ accessFlags := 1, nameIndex := 5, descriptorIndex := 6, attributes := #[] }] 33 0 #[] #[])
  fields := #[]
  methods := #[k0m0]
  instanceTypes := #[]
  staticTypes := #[]
  resolved := Array.replicate 124 none
  statics := none }

def pool1 : Array CpInfo := pool [(2, .class_ 4), (1, u "java/lang/Object"), (0, u "<init>"), (0, u "()V"), (0, .integer 2147483647), (0, .long 9223372036854775807), (1, .class_ 11), (0, u "com/example/sluice/sluice/protocol/BoundedOutput"), (0, .methodref 10 13), (0, .nameAndType 5 14), (0, u "(I)V"), (0, .methodref 10 16), (0, .nameAndType 17 14), (0, u "written"), (0, .methodref 10 19), (0, .nameAndType 20 21), (0, u "fits"), (0, u "(I)Z"), (0, .class_ 23), (0, u "com/example/sluice/sluice/protocol/BoundedOutputFitsPinLaw"), (2, u "law"), (0, u "(IJI)Z")] 3

def k1m0 : Method := { name := "<init>", desc := "()V", sig := { parameters := [], returnType := none }, accessFlags := 1, code := none }
def k1c1 : Code := { maxStack := 6, maxLocals := 8, code := code, exceptionTable := #[], attributes := #[] }
def k1m1 : Method := { name := "law", desc := "(IJI)Z", sig := { parameters := [.int, .long, .int], returnType := some .boolean }, accessFlags := 9, code := some k1c1 }
/-- com/example/sluice/sluice/protocol/BoundedOutputFitsPinLaw -/
def k1 : Class := { plain "com/example/sluice/sluice/protocol/BoundedOutputFitsPinLaw" (some 0) with
  accessFlags := 49
  interfaces := #[]
  cf := some (fileOf pool1 22 #[] #[{ accessFlags := 1, nameIndex := 5, descriptorIndex := 6, attributes := #[] }, { accessFlags := 9, nameIndex := 26, descriptorIndex := 27, attributes := #[] }] 49 2 #[] #[])
  fields := #[]
  methods := #[k1m0, k1m1]
  instanceTypes := #[]
  staticTypes := #[]
  resolved := Array.replicate 31 none
  statics := none }

def pool2 : Array CpInfo := pool [(1, .methodref 2 3), (0, .class_ 4), (0, .nameAndType 5 6), (0, u "java/lang/Object"), (0, u "<init>"), (0, u "()V"), (0, .fieldref 8 9), (0, .class_ 10), (0, .nameAndType 11 12), (0, u "com/example/sluice/sluice/protocol/BoundedOutput"), (0, u "maxBytes"), (0, u "I"), (0, .integer 65536), (0, .methodref 15 16), (0, .class_ 17), (0, .nameAndType 18 19), (0, u "java/lang/Math"), (0, u "min"), (0, u "(II)I"), (0, .fieldref 8 21), (0, .nameAndType 22 23), (0, u "bytes"), (0, u "[B"), (2, u "fits"), (0, u "(I)Z"), (4, .fieldref 8 33), (0, .nameAndType 34 12), (0, u "size"), (3, u "(I)V"), (51, u "FIRST_BYTES"), (7, u "written")] 25

def k2c0 : Code := { maxStack := 3, maxLocals := 2, code := prog_34_method_1_code, exceptionTable := #[], attributes := #[] }
def k2m0 : Method := { name := "<init>", desc := "(I)V", sig := { parameters := [.int], returnType := none }, accessFlags := 0, code := some k2c0 }
def k2c1 : Code := { maxStack := 4, maxLocals := 2, code := prog_34_method_3_code, exceptionTable := #[], attributes := #[] }
def k2m1 : Method := { name := "fits", desc := "(I)Z", sig := { parameters := [.int], returnType := some .boolean }, accessFlags := 0, code := some k2c1 }
def k2c2 : Code := { maxStack := 3, maxLocals := 2, code := prog_34_method_5_code, exceptionTable := #[], attributes := #[] }
def k2m2 : Method := { name := "written", desc := "(I)V", sig := { parameters := [.int], returnType := none }, accessFlags := 0, code := some k2c2 }
/-- com/example/sluice/sluice/protocol/BoundedOutput -/
def k2 : Class := { plain "com/example/sluice/sluice/protocol/BoundedOutput" (some 0) with
  accessFlags := 48
  interfaces := #[]
  cf := some (fileOf pool2 8 #[] #[{ accessFlags := 0, nameIndex := 5, descriptorIndex := 38, attributes := #[] }, { accessFlags := 0, nameIndex := 26, descriptorIndex := 27, attributes := #[] }, { accessFlags := 0, nameIndex := 98, descriptorIndex := 38, attributes := #[] }] 48 2 #[] #[{ accessFlags := 26, nameIndex := 90, descriptorIndex := 12, attributes := #[] }, { accessFlags := 18, nameIndex := 11, descriptorIndex := 12, attributes := #[] }, { accessFlags := 2, nameIndex := 22, descriptorIndex := 23, attributes := #[] }, { accessFlags := 2, nameIndex := 34, descriptorIndex := 12, attributes := #[] }])
  fields := #[{ name := "FIRST_BYTES", type := .int, accessFlags := 26, slot := 0, constantValue := 0 }, { name := "maxBytes", type := .int, accessFlags := 18, slot := 0, constantValue := 0 }, { name := "bytes", type := (.array .byte), accessFlags := 2, slot := 1, constantValue := 0 }, { name := "size", type := .int, accessFlags := 2, slot := 2, constantValue := 0 }]
  methods := #[k2m0, k2m1, k2m2]
  instanceTypes := #[.int, (.array .byte), .int]
  staticTypes := #[.int]
  resolved := Array.replicate 124 none
  statics := none }

def pool3 : Array CpInfo := pool [(1, .class_ 2), (0, u "java/lang/Math"), (1, .class_ 6), (1, u "java/lang/Object"), (0, u "<init>"), (0, u "()V"), (89, .class_ 100), (1, u "java/lang/Math$RandomNumberGeneratorHolder"), (71, u "negativeZeroFloatBits"), (0, u "J"), (2, u "negativeZeroDoubleBits"), (24, u "min"), (43, u "$assertionsDisabled"), (0, u "Z"), (88, u "(II)I"), (2, u "twoToTheDoubleScaleDown"), (0, u "D"), (4, u "twoToTheDoubleScaleUp"), (9, u "E"), (3, u "PI"), (2, u "TAU"), (2, u "DEGREES_TO_RADIANS"), (0, u "RADIANS_TO_DEGREES")] 94

def k3m0 : Method := { name := "<init>", desc := "()V", sig := { parameters := [], returnType := none }, accessFlags := 2, code := none }
def k3c1 : Code := { maxStack := 2, maxLocals := 2, code := jdk_29_method_69_code, exceptionTable := #[], attributes := #[] }
def k3m1 : Method := { name := "min", desc := "(II)I", sig := { parameters := [.int, .int], returnType := some .int }, accessFlags := 9, code := some k3c1 }
/-- java/lang/Math -/
def k3 : Class := { plain "java/lang/Math" (some 0) with
  accessFlags := 49
  interfaces := #[]
  cf := some (fileOf pool3 1 #[.nestMembers #[98]] #[{ accessFlags := 2, nameIndex := 7, descriptorIndex := 8, attributes := #[] }, { accessFlags := 9, nameIndex := 201, descriptorIndex := 335, attributes := #[] }] 49 4 #[] #[{ accessFlags := 25, nameIndex := 354, descriptorIndex := 339, attributes := #[] }, { accessFlags := 25, nameIndex := 358, descriptorIndex := 339, attributes := #[] }, { accessFlags := 25, nameIndex := 361, descriptorIndex := 339, attributes := #[] }, { accessFlags := 26, nameIndex := 364, descriptorIndex := 339, attributes := #[] }, { accessFlags := 26, nameIndex := 365, descriptorIndex := 339, attributes := #[] }, { accessFlags := 26, nameIndex := 172, descriptorIndex := 173, attributes := #[] }, { accessFlags := 26, nameIndex := 176, descriptorIndex := 173, attributes := #[] }, { accessFlags := 8, nameIndex := 344, descriptorIndex := 339, attributes := #[] }, { accessFlags := 8, nameIndex := 338, descriptorIndex := 339, attributes := #[] }, { accessFlags := 4120, nameIndex := 245, descriptorIndex := 246, attributes := #[] }])
  fields := #[{ name := "E", type := .double, accessFlags := 25, slot := 0, constantValue := 0 }, { name := "PI", type := .double, accessFlags := 25, slot := 1, constantValue := 0 }, { name := "TAU", type := .double, accessFlags := 25, slot := 2, constantValue := 0 }, { name := "DEGREES_TO_RADIANS", type := .double, accessFlags := 26, slot := 3, constantValue := 0 }, { name := "RADIANS_TO_DEGREES", type := .double, accessFlags := 26, slot := 4, constantValue := 0 }, { name := "negativeZeroFloatBits", type := .long, accessFlags := 26, slot := 5, constantValue := 0 }, { name := "negativeZeroDoubleBits", type := .long, accessFlags := 26, slot := 6, constantValue := 0 }, { name := "twoToTheDoubleScaleUp", type := .double, accessFlags := 8, slot := 7, constantValue := 0 }, { name := "twoToTheDoubleScaleDown", type := .double, accessFlags := 8, slot := 8, constantValue := 0 }, { name := "$assertionsDisabled", type := .boolean, accessFlags := 4120, slot := 9, constantValue := 0 }]
  methods := #[k3m0, k3m1]
  instanceTypes := #[]
  staticTypes := #[.double, .double, .double, .double, .double, .long, .long, .double, .double, .boolean]
  resolved := Array.replicate 460 none
  statics := none }

def pool4 : Array CpInfo := pool [(1, u "java/lang/Cloneable"), (0, .class_ 1), (0, u "java/lang/Object"), (0, .class_ 3)] 3

/-- java/lang/Cloneable -/
def k4 : Class := { plain "java/lang/Cloneable" (some 0) with
  accessFlags := 1537
  interfaces := #[]
  cf := some (fileOf pool4 2 #[] #[] 1537 4 #[] #[])
  fields := #[]
  methods := #[]
  instanceTypes := #[]
  staticTypes := #[]
  resolved := Array.replicate 8 none
  statics := none }

def pool5 : Array CpInfo := pool [(1, u "java/io/Serializable"), (0, .class_ 1), (0, u "java/lang/Object"), (0, .class_ 3)] 3

/-- java/io/Serializable -/
def k5 : Class := { plain "java/io/Serializable" (some 0) with
  accessFlags := 1537
  interfaces := #[]
  cf := some (fileOf pool5 2 #[] #[] 1537 4 #[] #[])
  fields := #[]
  methods := #[]
  instanceTypes := #[]
  staticTypes := #[]
  resolved := Array.replicate 8 none
  statics := none }

/-- the primitive byte -/
def k6 : Class := { plain "byte" none with kind := .primitive 'B', accessFlags := 0x411 }
/-- [B -/
def k7 : Class := { plain "[B" (some 0) with kind := .array 6 .byte, interfaces := #[4, 5], accessFlags := 1041 }

/-- the primitive int -/
def k8 : Class := { plain "int" none with kind := .primitive 'I', accessFlags := 0x411 }
/-- [I -/
def k9 : Class := { plain "[I" (some 0) with kind := .array 8 .int, interfaces := #[4, 5], accessFlags := 1041 }

def heap : Heap := #[]
def classes : Array Class := #[k0, k1, k2, k3, k4, k5, k6, k7, k8, k9]
def interned : List (Array UInt16 × Addr) := []
def slotsUsed : Nat := 0
def theMethod : MethodId := ⟨1, 1⟩
def args0 : Array Value := #[.int 77, .long 99, .int 3]
def aboutOver (below : List Frame) : State where
  vm := { classes := classes, interned := interned.toArray }
  heap := heap
  slotsUsed := slotsUsed
  threads := #[{ frames := .invoking theMethod args0 :: below }]
def below0 : List Frame := [.native { method := ⟨0, 0⟩, args := #[] }]
def about1 : State := aboutOver below0
def p0 : Program := .bare "" "" ""
def e0 : Env := launch0.env 0 0 0
theorem w_frames : about1.frames = Frame.invoking theMethod args0 :: below0 := rfl
set_option maxRecDepth 65536 in
theorem w_args : argsFit about1.vm theMethod args0 = true := by decide +kernel
set_option maxRecDepth 65536 in
theorem w_heap : heapFits about1 = true := by decide +kernel
set_option maxRecDepth 65536 in
theorem w_runnable : about1.curStatus? = some .runnable := by decide +kernel
set_option maxRecDepth 65536 in
theorem w_alone : about1.alone = true := by decide +kernel
set_option maxRecDepth 65536 in
theorem w_named : about1.methodNamed? x = some theMethod := by decide +kernel
set_option maxRecDepth 65536 in
theorem w_hears : about1.hears theMethod below0 = true := by decide +kernel
set_option maxRecDepth 65536 in
theorem w_ripe : about1.ripe theMethod args0 below0 = true := by decide +kernel
theorem w_running : about1.status = .running := rfl
set_option maxRecDepth 65536 in
theorem w_room : about1.hasRoom e0.platform room_1 = true :=
  launch0.hasRoom_least _ room_1 (by decide +kernel) (by decide +kernel) (by decide +kernel) (by decide +kernel) (by decide +kernel) (by decide +kernel)
theorem allAtoms_all (ts : List Jvm.Cond) (a : Array Jvm.Value) (st : Jvm.State) : (allAtoms ts).before a st = ts.all (fun c => c.before a st) := by
  induction ts with
  | nil => rfl
  | cons c t ih =>
    show (Jvm.Cond.and c (allAtoms t)).before a st = _
    rw [Jvm.Cond.before_and, ih, List.all_cons]
def words1 : List Jvm.Cond := Jvm.Cond.code x code maxLocals ret :: tables_1
/-- a 'code' word, met by the world's own term for the bytes: nothing is compared byte by byte -/
theorem code_word {y : MethodName} {bytes : ByteArray} {mx : Nat} {rt : Option FieldType} {a : Array Value} {s : State} {m : MethodId} {meth : Method} {c : Code} (h1 : s.methodNamed? y = some m) (h2 : s.vm.method? m = some meth) (h3 : meth.code = some c) (h4 : c.code = bytes)
    (h5 : (c.maxLocals == mx && c.exceptionTable.isEmpty && decide (c.maxStack ≤ mostOperands) && decide (meth.sig.returnType = rt) && !meth.locks && decide (parseMethodDescriptor y.desc = some meth.sig)) = true) : (Jvm.Cond.code y bytes mx rt).before a s = true := by
  simp only [Bool.and_eq_true, beq_iff_eq, Bool.not_eq_true', decide_eq_true_eq] at h5
  obtain ⟨⟨⟨⟨⟨g1, g2⟩, g3⟩, g4⟩, g5⟩, g6⟩ := h5
  simp [Cond.before, Cond.holds, Cond.value, h1, h2, h3, h4, g1, g2, g3, g4, g5, g6]
def isCode : Jvm.Cond → Bool
  | .code _ _ _ _ => true
  | _ => false
theorem all_split {L : List Jvm.Cond} {P : Jvm.Cond → Bool} (h1 : L.all (fun c => isCode c || P c) = true) (h2 : ∀ c ∈ L.filter isCode, P c = true) : L.all P = true := by
  refine List.all_eq_true.mpr fun c hc => ?_
  have h := List.all_eq_true.mp h1 c hc
  rcases Bool.eq_false_or_eq_true (isCode c) with hi | hi
  · exact h2 c (List.mem_filter.mpr ⟨hc, hi⟩)
  · simpa [hi] using h
set_option maxRecDepth 65536 in
theorem w_c0 : (Jvm.Cond.code x code maxLocals ret).before args0 about1 = true := code_word (m := ⟨1, 1⟩) (meth := k1m1) (c := k1c1) (by decide +kernel) rfl rfl rfl (by decide +kernel)
set_option maxRecDepth 65536 in
theorem w_c1 : (Jvm.Cond.code ({ cls := "com/example/sluice/sluice/protocol/BoundedOutput", name := "<init>", desc := "(I)V" } : Jvm.MethodName) prog_34_method_1_code (2 : Nat) (Option.none : Option Jvm.ClassFile.FieldType)).before args0 about1 = true := code_word (m := ⟨2, 0⟩) (meth := k2m0) (c := k2c0) (by decide +kernel) rfl rfl rfl (by decide +kernel)
set_option maxRecDepth 65536 in
theorem w_c2 : (Jvm.Cond.code ({ cls := "java/lang/Object", name := "<init>", desc := "()V" } : Jvm.MethodName) object_method_1_code (1 : Nat) (Option.none : Option Jvm.ClassFile.FieldType)).before args0 about1 = true := code_word (m := ⟨0, 0⟩) (meth := k0m0) (c := k0c0) (by decide +kernel) rfl rfl rfl (by decide +kernel)
set_option maxRecDepth 65536 in
theorem w_c3 : (Jvm.Cond.code ({ cls := "java/lang/Math", name := "min", desc := "(II)I" } : Jvm.MethodName) jdk_29_method_69_code (2 : Nat) (Option.some Jvm.ClassFile.FieldType.int)).before args0 about1 = true := code_word (m := ⟨3, 1⟩) (meth := k3m1) (c := k3c1) (by decide +kernel) rfl rfl rfl (by decide +kernel)
set_option maxRecDepth 65536 in
theorem w_c4 : (Jvm.Cond.code ({ cls := "com/example/sluice/sluice/protocol/BoundedOutput", name := "written", desc := "(I)V" } : Jvm.MethodName) prog_34_method_5_code (2 : Nat) (Option.none : Option Jvm.ClassFile.FieldType)).before args0 about1 = true := code_word (m := ⟨2, 2⟩) (meth := k2m2) (c := k2c2) (by decide +kernel) rfl rfl rfl (by decide +kernel)
set_option maxRecDepth 65536 in
theorem w_c5 : (Jvm.Cond.code ({ cls := "com/example/sluice/sluice/protocol/BoundedOutput", name := "fits", desc := "(I)Z" } : Jvm.MethodName) prog_34_method_3_code (2 : Nat) (Option.some Jvm.ClassFile.FieldType.boolean)).before args0 about1 = true := code_word (m := ⟨2, 1⟩) (meth := k2m1) (c := k2c1) (by decide +kernel) rfl rfl rfl (by decide +kernel)
def codes1 : List Jvm.Cond := [Jvm.Cond.code x code maxLocals ret, Jvm.Cond.code ({ cls := "com/example/sluice/sluice/protocol/BoundedOutput", name := "<init>", desc := "(I)V" } : Jvm.MethodName) prog_34_method_1_code (2 : Nat) (Option.none : Option Jvm.ClassFile.FieldType), Jvm.Cond.code ({ cls := "java/lang/Object", name := "<init>", desc := "()V" } : Jvm.MethodName) object_method_1_code (1 : Nat) (Option.none : Option Jvm.ClassFile.FieldType), Jvm.Cond.code ({ cls := "java/lang/Math", name := "min", desc := "(II)I" } : Jvm.MethodName) jdk_29_method_69_code (2 : Nat) (Option.some Jvm.ClassFile.FieldType.int), Jvm.Cond.code ({ cls := "com/example/sluice/sluice/protocol/BoundedOutput", name := "written", desc := "(I)V" } : Jvm.MethodName) prog_34_method_5_code (2 : Nat) (Option.none : Option Jvm.ClassFile.FieldType), Jvm.Cond.code ({ cls := "com/example/sluice/sluice/protocol/BoundedOutput", name := "fits", desc := "(I)Z" } : Jvm.MethodName) prog_34_method_3_code (2 : Nat) (Option.some Jvm.ClassFile.FieldType.boolean)]
set_option maxRecDepth 65536 in
theorem codes_eq : words1.filter isCode = codes1 := rfl
theorem w_codes : ∀ c ∈ words1.filter isCode, c.before args0 about1 = true := by
  rw [codes_eq]
  intro c hc
  simp only [codes1, List.mem_cons, List.not_mem_nil, or_false] at hc
  rcases hc with rfl | rfl | rfl | rfl | rfl | rfl
  · exact w_c0
  · exact w_c1
  · exact w_c2
  · exact w_c3
  · exact w_c4
  · exact w_c5
set_option maxRecDepth 65536 in
theorem w_t1 : (words1.take 24).all (fun c => isCode c || c.before args0 about1) = true := by decide +kernel
set_option maxRecDepth 65536 in
theorem w_t2 : (words1.drop 24).all (fun c => isCode c || c.before args0 about1) = true := by decide +kernel
theorem w_tables : (allAtoms (Jvm.Cond.code x code maxLocals ret :: tables_1)).before args0 about1 = true := by
  rw [allAtoms_all]
  show words1.all (fun c => c.before args0 about1) = true
  refine all_split ?_ w_codes
  rw [← List.take_append_drop 24 words1, List.all_append, w_t1, w_t2]
  rfl
set_option maxRecDepth 65536 in
theorem w_case : (Jvm.Cond.and given_1 narrow_1).before args0 about1 = true := by decide +kernel
theorem w_applies : (headSpec (Jvm.Cond.code x code maxLocals ret :: tables_1) room_1).applies x e0.platform about1 = true :=
  (Spec.applies_iff w_frames).mpr ⟨w_running, w_runnable, w_alone, w_named, w_hears, w_ripe, w_room, w_tables⟩
theorem atStart : AtStart classFile x code maxLocals ret World_1 tables_1 room_1 Calls_1 rest_1 Pre_1 launch0 p0 e0 about1 theMethod args0 below0 :=
  ⟨lists_1, trivial, launch0.admits_env _ _ _, launch0.least_env, fairChoices_fair.cas, fairChoices_fair.clock, w_frames, w_args, w_heap, w_applies, trivial, trivial, w_case⟩
end start1
theorem witness_1 : WitnessClaimed_1 := ⟨start1.p0, start1.e0, start1.about1, start1.theMethod, start1.args0, start1.below0, start1.atStart⟩
end Jvm.Pilot.@@N@@
