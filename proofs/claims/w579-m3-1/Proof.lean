import JvmDerived
import JvmDerived.Pilot.@@N@@Statement
import JvmDerived.Pilot.@@N@@Code
set_option linter.unusedVariables false
set_option linter.unusedSimpArgs false
namespace Jvm.RoadKit
open Sem ClassFile Op Lib Jvm.Stand Jvm.Free Jvm.LawKit
section New
variable {p : Program} {l : Launch} {e : Env} {R : Room} {s : State} {m : MethodId} {args : Array Value} {below : List Frame} {meth : Method} {c : Code} {T : State} {locs : List Loc} {cells slots : Nat}
theorem retI (X : Stand p l e R s m args below meth c T locs cells slots) (hx : p.tables.exec = Jvm.exec) {pc : Nat} {Ls : Array Slot} {z : Int32} {rest : List Value} (hret : meth.sig.returnType = some .int) (hd : decode c.code pc = .ok (.ireturn, 1)) {fs : List Frame}
    (hl : ∀ (f : JFrame) (acts : List Action), f.method = m → f.locked = none → f.entered = [] → (doReturn e (T.setTop f) acts (some (.int z))).1 = T.setFrames fs) : Steps p.tables e below (T.setTop (mkF m pc Ls (.int z :: rest))) (T.setFrames fs) := by
  have hm' : T.vm.method? m = some meth := X.method'
  have hn : narrow .int (.int z) = .int z := rfl
  show Steps p.tables e below (T.setTop { method := m, pc := pc, locals := Ls, stack := _ :: rest, locked := none }) _
  jvm_step X.here [X.here.top, hx, hd, hm', hret, hn]
  first | (intro acts; rw [hl _ acts rfl rfl rfl]) | rw [hl _ _ rfl rfl rfl]
  exact Steps.refl _
end New
end Jvm.RoadKit
@@BLOCK:HandJ.lean.txt@@
@@BLOCK:NumsL.lean.txt@@
@@BLOCK:SymMore.lean.txt@@
namespace Jvm.Pilot.@@N@@
open Jvm Jvm.ClassFile Sem Op Lib Jvm.Free Jvm.Stand Jvm.LawKit Jvm.RoadKit Bundle Jvm.Pilot.@@N@@.Jvm.D
theorem own_sta_keep {Z : State} {h h' : Heap} {C n d : String} {v : Value} (S : Sta Z h C n d v) (K : Keep h h' []) : Sta Z h' C n d v := by
  obtain ⟨cf, i, k, f, st, cell, h1, h2, h3, h4, h5, r⟩ := S
  exact ⟨cf, i, k, f, st, cell, h1, h2, h3, h4, K.2.1 _ _ h5 List.not_mem_nil, r⟩
theorem own_sta_keepw {Z : State} {h h' : Heap} {C n d : String} {v : Value} {ws : List Addr} (S : Sta Z h C n d v) (K : Keep h h' ws) (q : ∀ x ∈ ws, ∃ c : Cell, h[x]? = some c ∧ c.vm.isStatics = false) : Sta Z h' C n d v := by
  obtain ⟨cf, i, k, f, st, cell, h1, h2, h3, h4, h5, h6, r⟩ := S
  refine ⟨cf, i, k, f, st, cell, h1, h2, h3, h4, K.2.1 _ _ h5 (fun hm => ?_), h6, r⟩
  obtain ⟨c, q1, q2⟩ := q _ hm
  cases q1.symm.trans h5
  rw [q2] at h6; cases h6
theorem own_plain {Z : State} {h : Heap} {a : Addr} {C : String} (E : Exa Z h a C) : ∃ c : Cell, h[a]? = some c ∧ c.vm.isStatics = false := by
  obtain ⟨c, k, h1, -, -, h4, -⟩ := E
  exact ⟨c, h1, h4⟩
theorem own_plainV {Z : State} {h : Heap} {a : Addr} {k : ClassId} {ty : FieldType} {z : Int32} {vs : List Value} {d : Value} (V : Arv Z h a k ty z vs d) : ∃ c : Cell, h[a]? = some c ∧ c.vm.isStatics = false := by
  obtain ⟨c, A, -⟩ := V
  exact ⟨c, A.1, A.plain⟩

theorem own_eqv {args : Array Value} {s : State} {a b : Term} {x v : Value} (hb : b.eval args s none [] s = some v) (h : (Jvm.Cond.eq a b).value args s none s [] = some true) (hv : (∃ k, v = .int k) ∨ v = .null ∨ ∃ r, v = .ref r) : a.eval args s none [] s = some v := by
  obtain ⟨x, y, h1, h2, -, -⟩ := cmp_v (Or.inl h)
  cases hb.symm.trans h2
  rw [h1]
  rcases hv with ⟨k, rfl⟩ | rfl | ⟨r, rfl⟩ <;> cases x <;> simp [Cond.value, h1, hb] at h ⊢ <;> exact h
theorem own_fld {args : Array Value} {s : State} {t u : Term} {C n d : String} {b : Addr} {v : Value} (ev : t.eval args s none [] s = some (.ref b)) (hb : u.eval args s none [] s = some v) (hv : (∃ k, v = .int k) ∨ v = .null ∨ ∃ r, v = .ref r) (h : (Jvm.Cond.eq (.field t C n d) u).value args s none s [] = some true) : Fld s s.heap b C n d v := by
  have e := own_eqv (x := v) hb h hv
  rw [fld_at ev] at e
  exact Fld.start e
theorem own_uniq {Z : State} {h : Heap} {a : Addr} {C n d : String} {v w : Value} (F : Fld Z h a C n d v) (G : Fld Z h a C n d w) : v = w := by
  obtain ⟨c1, cf1, k1, i1, f1, a1, a2, -, -, -, -, a7⟩ := F
  obtain ⟨c2, cf2, k2, i2, f2, b1, b2, -, -, -, -, b7⟩ := G
  cases a1.symm.trans b1
  cases a2.symm.trans b2
  exact Option.some.inj (a7.symm.trans b7)
theorem own_apart {Z : State} {h : Heap} {a b : Addr} {C n d : String} {v w : Value} (F : Fld Z h a C n d v) (G : Fld Z h b C n d w) (q : v ≠ w) : a ≠ b := fun e => q (own_uniq F (e ▸ G))

theorem d1_0 : decode jdk_29_method_65_code 0 = .ok (.iload_n 0, 1) := by decide +kernel
theorem d1_1 : decode jdk_29_method_65_code 1 = .ok (.iload_n 1, 1) := by decide +kernel
theorem d1_2 : decode jdk_29_method_65_code 2 = .ok (.if_icmp .lt 7, 3) := by decide +kernel
theorem d1_9 : decode jdk_29_method_65_code 9 = .ok (.iload_n 1, 1) := by decide +kernel
theorem d1_10 : decode jdk_29_method_65_code 10 = .ok (.ireturn, 1) := by decide +kernel
theorem d1_5 : decode jdk_29_method_65_code 5 = .ok (.iload_n 0, 1) := by decide +kernel
theorem d1_6 : decode jdk_29_method_65_code 6 = .ok (.goto 4, 3) := by decide +kernel
def f_max (p0 : Int32) (p1 : Int32) : Int32 := (if p0 < p1 then p1 else p0)
theorem ef1 (m : MethodId) (x0 : Int32) (x1 : Int32) : entryFrame m #[(.int x0), (.int x1)] 2 = mkF m 0 #[.val (.int x0), .val (.int x1)] [] := by first | (simp [entryFrame, mkF, argsToLocals, Value.category]; done) | rfl
def Q1 (Z : State) (p0 : Int32) (p1 : Int32) (h0 : Heap) (n0 : Nat) (v : Option Value) (h : Heap) (L : List Loc) : Prop := v = some (.int (f_max p0 p1)) ∧ Fr n0 L ∧ h = h0
set_option maxRecDepth 65536 in
set_option maxHeartbeats 40000000 in
theorem rm1 (l : Launch) (Z : State) (a0 : Array Value) (hw : ∀ d ∈ tables_1, d.before a0 Z = true) (ws : List Jvm.Cond) (p0 : Int32) (p1 : Int32) (h0 : Heap) (n0 : Nat) (Z0 : n0 ≤ h0.size) :
    MetFree l (⟨"java/lang/Math", "max", "(II)I"⟩ : MethodName) (head1 (Jvm.Cond.code (⟨"java/lang/Math", "max", "(II)I"⟩ : MethodName) jdk_29_method_65_code 2 (some .int) :: ws) ({ frames := 0, cells := 0, slots := 0, locals := 0 } : Room)) (fun a U => a = #[(.int p0), (.int p1)] ∧ Z.Warmed39 U.vm ∧ U.heap = h0) (fun _ _ _ _ _ => True) (fun _ U o U' => ∃ v L, o = .returned v ∧ Q1 Z p0 p1 h0 n0 v U'.heap L ∧ FrameEnd U o U' L ({ frames := 0, cells := 0, slots := 0, locals := 0 } : Room).cells ({ frames := 0, cells := 0, slots := 0, locals := 0 } : Room).slots) := by
  refine MetFree.of_bodySF (Jvm.Free.JP.mathPlain rfl (by decide +kernel)) hisR ?_
  intro p e s m args below meth c s₁ Bd hml0 hP hK
  obtain ⟨rfl, hZ, hh⟩ := hP
  have hx := Bd.exec
  have hby := Bd.bytes
  have hml : c.maxLocals = 2 := hml0
  have hown : s.vm.findClass "java/lang/Math" = some m.cls := findClass_of_methodNamed Bd.named
  have hnm := (name_of_methodNamed Bd.named Bd.method).1
  have X0 : Stand p l e ({ frames := 0, cells := 0, slots := 0, locals := 0 } : Room) s m #[(.int p0), (.int p1)] below meth c s₁ [] 0 0 := Stand.of_body Bd
  have e0 : s₁.heap = h0 := by rw [← hh, Bd.state]; rfl
  have N0 := Fr.nil n0
  have pre0 : ∀ t, Steps p.tables e below (s₁.setTop (mkF m 0 #[.val (.int p0), .val (.int p1)] [])) t → Steps p.tables e below (s₁.setTop (entryFrame m #[(.int p0), (.int p1)] 2)) t := fun t k => castTop (ef1 m p0 p1) k
  have S1 : ∀ t, Steps p.tables e below (s₁.setTop (mkF m 2 #[.val (.int p0), .val (.int p1)] [(.int p1), (.int p0)])) t → Steps p.tables e below (s₁.setTop (entryFrame m #[(.int p0), (.int p1)] 2)) t := by
    intro t kt
    refine pre0 _ ?_
    show Steps p.tables e below (s₁.setTop (mkF m 0 #[.val (.int p0), .val (.int p1)] [])) _
    refine XS.iloadN X0.here hx rfl (hb hby d1_0) rfl ?_
    show Steps p.tables e below (s₁.setTop (mkF m 1 #[.val (.int p0), .val (.int p1)] [(.int p0)])) _
    refine XS.iloadN X0.here hx rfl (hb hby d1_1) rfl ?_
    exact kt
  by_cases hc2_2 : p0 < p1
  case pos =>
    obtain ⟨fs, hrT, hrunT, hendT, hWT, hsameT⟩ := X0.leave (hlocks := BodyLoose.notSynchronized Bd) (v := some (.int p1)) (fun h => by rw [Bd.returns] at h; cases h)
    refine ⟨_, _, S1 _ ?_, hrunT, hendT, _, _, rfl, ?_, ⟨_, rfl⟩, hWT, hsameT.mono (by decide) (by decide)⟩
    · show Steps p.tables e below (s₁.setTop (mkF m 2 #[.val (.int p0), .val (.int p1)] [(.int p1), (.int p0)])) _
      refine XS.icmpYes X0.here hx rfl (pc0 := 2) (pc' := 9) rfl (hb hby d1_2) rfl (XT.ii_lt_t hc2_2) (by decide) (by decide) ?_
      show Steps p.tables e below (s₁.setTop (mkF m 9 #[.val (.int p0), .val (.int p1)] [])) _
      refine XS.iloadN X0.here hx rfl (hb hby d1_9) rfl ?_
      show Steps p.tables e below (s₁.setTop (mkF m 10 #[.val (.int p0), .val (.int p1)] [(.int p1)])) _
      exact retI X0 hx Bd.returns (hb hby d1_10) hrT
    · show Q1 Z p0 p1 h0 n0 _ s₁.heap _
      rw [e0]
      have hv : f_max p0 p1 = p1 := by unfold f_max; rw [if_pos hc2_2]
      exact ⟨(congrArg (fun z => some (Value.int z)) hv.symm), N0, rfl⟩
  case neg =>
    obtain ⟨fs, hrT, hrunT, hendT, hWT, hsameT⟩ := X0.leave (hlocks := BodyLoose.notSynchronized Bd) (v := some (.int p0)) (fun h => by rw [Bd.returns] at h; cases h)
    refine ⟨_, _, S1 _ ?_, hrunT, hendT, _, _, rfl, ?_, ⟨_, rfl⟩, hWT, hsameT.mono (by decide) (by decide)⟩
    · show Steps p.tables e below (s₁.setTop (mkF m 2 #[.val (.int p0), .val (.int p1)] [(.int p1), (.int p0)])) _
      refine XS.icmpNo X0.here hx rfl (hb hby d1_2) rfl (XT.ii_lt_f hc2_2) ?_
      show Steps p.tables e below (s₁.setTop (mkF m 5 #[.val (.int p0), .val (.int p1)] [])) _
      refine XS.iloadN X0.here hx rfl (hb hby d1_5) rfl ?_
      show Steps p.tables e below (s₁.setTop (mkF m 6 #[.val (.int p0), .val (.int p1)] [(.int p0)])) _
      refine XS.goto X0.here hx rfl (pc0 := 6) (pc' := 10) rfl (hb hby d1_6) (by decide) (by decide) ?_
      show Steps p.tables e below (s₁.setTop (mkF m 10 #[.val (.int p0), .val (.int p1)] [(.int p0)])) _
      exact retI X0 hx Bd.returns (hb hby d1_10) hrT
    · show Q1 Z p0 p1 h0 n0 _ s₁.heap _
      rw [e0]
      have hv : f_max p0 p1 = p0 := by unfold f_max; rw [if_neg hc2_2]
      exact ⟨(congrArg (fun z => some (Value.int z)) hv.symm), N0, rfl⟩
theorem d2_0 : decode jdk_29_method_66_code 0 = .ok (.lload_n 0, 1) := by decide +kernel
theorem d2_1 : decode jdk_29_method_66_code 1 = .ok (.lload_n 2, 1) := by decide +kernel
theorem d2_2 : decode jdk_29_method_66_code 2 = .ok (.lcmp, 1) := by decide +kernel
theorem d2_3 : decode jdk_29_method_66_code 3 = .ok (.ifCond .lt 7, 3) := by decide +kernel
theorem d2_10 : decode jdk_29_method_66_code 10 = .ok (.lload_n 2, 1) := by decide +kernel
theorem d2_11 : decode jdk_29_method_66_code 11 = .ok (.lreturn, 1) := by decide +kernel
theorem d2_6 : decode jdk_29_method_66_code 6 = .ok (.lload_n 0, 1) := by decide +kernel
theorem d2_7 : decode jdk_29_method_66_code 7 = .ok (.goto 4, 3) := by decide +kernel
def f_maxL (q0 : Int64) (q1 : Int64) : Int64 := (if q0 < q1 then q1 else q0)
theorem ef2 (m : MethodId) (x0 : Int64) (x1 : Int64) : entryFrame m #[(.long x0), (.long x1)] 4 = mkF m 0 #[.val (.long x0), .second, .val (.long x1), .second] [] := by first | (simp [entryFrame, mkF, argsToLocals, Value.category]; done) | rfl
def Q2 (Z : State) (q0 : Int64) (q1 : Int64) (h0 : Heap) (n0 : Nat) (v : Option Value) (h : Heap) (L : List Loc) : Prop := v = some (.long (f_maxL q0 q1)) ∧ Fr n0 L ∧ h = h0
set_option maxRecDepth 65536 in
set_option maxHeartbeats 40000000 in
theorem rm2 (l : Launch) (Z : State) (a0 : Array Value) (hw : ∀ d ∈ tables_1, d.before a0 Z = true) (ws : List Jvm.Cond) (q0 : Int64) (q1 : Int64) (h0 : Heap) (n0 : Nat) (Z0 : n0 ≤ h0.size) :
    MetFree l (⟨"java/lang/Math", "max", "(JJ)J"⟩ : MethodName) (head1 (Jvm.Cond.code (⟨"java/lang/Math", "max", "(JJ)J"⟩ : MethodName) jdk_29_method_66_code 4 (some .long) :: ws) ({ frames := 0, cells := 0, slots := 0, locals := 0 } : Room)) (fun a U => a = #[(.long q0), (.long q1)] ∧ Z.Warmed39 U.vm ∧ U.heap = h0) (fun _ _ _ _ _ => True) (fun _ U o U' => ∃ v L, o = .returned v ∧ Q2 Z q0 q1 h0 n0 v U'.heap L ∧ FrameEnd U o U' L ({ frames := 0, cells := 0, slots := 0, locals := 0 } : Room).cells ({ frames := 0, cells := 0, slots := 0, locals := 0 } : Room).slots) := by
  refine MetFree.of_bodySF (Jvm.Free.JP.mathPlain rfl (by decide +kernel)) hisR ?_
  intro p e s m args below meth c s₁ Bd hml0 hP hK
  obtain ⟨rfl, hZ, hh⟩ := hP
  have hx := Bd.exec
  have hby := Bd.bytes
  have hml : c.maxLocals = 4 := hml0
  have hown : s.vm.findClass "java/lang/Math" = some m.cls := findClass_of_methodNamed Bd.named
  have hnm := (name_of_methodNamed Bd.named Bd.method).1
  have X0 : Stand p l e ({ frames := 0, cells := 0, slots := 0, locals := 0 } : Room) s m #[(.long q0), (.long q1)] below meth c s₁ [] 0 0 := Stand.of_body Bd
  have e0 : s₁.heap = h0 := by rw [← hh, Bd.state]; rfl
  have N0 := Fr.nil n0
  have pre0 : ∀ t, Steps p.tables e below (s₁.setTop (mkF m 0 #[.val (.long q0), .second, .val (.long q1), .second] [])) t → Steps p.tables e below (s₁.setTop (entryFrame m #[(.long q0), (.long q1)] 4)) t := fun t k => castTop (ef2 m q0 q1) k
  have S3 : ∀ t, Steps p.tables e below (s₁.setTop (mkF m 3 #[.val (.long q0), .second, .val (.long q1), .second] [(.int (XT.cmpL q0 q1))])) t → Steps p.tables e below (s₁.setTop (entryFrame m #[(.long q0), (.long q1)] 4)) t := by
    intro t kt
    refine pre0 _ ?_
    show Steps p.tables e below (s₁.setTop (mkF m 0 #[.val (.long q0), .second, .val (.long q1), .second] [])) _
    refine XS.lloadN X0.here hx rfl (hb hby d2_0) rfl ?_
    show Steps p.tables e below (s₁.setTop (mkF m 1 #[.val (.long q0), .second, .val (.long q1), .second] [(.long q0)])) _
    refine XS.lloadN X0.here hx rfl (hb hby d2_1) rfl ?_
    show Steps p.tables e below (s₁.setTop (mkF m 2 #[.val (.long q0), .second, .val (.long q1), .second] [(.long q1), (.long q0)])) _
    refine XT.lcmp X0.here hx rfl (hb hby d2_2) rfl ?_
    exact kt
  by_cases hc3_4 : q0 < q1
  case pos =>
    obtain ⟨fs, hrT, hrunT, hendT, hWT, hsameT⟩ := X0.leave (hlocks := BodyLoose.notSynchronized Bd) (v := some (.long q1)) (fun h => by rw [Bd.returns] at h; cases h)
    refine ⟨_, _, S3 _ ?_, hrunT, hendT, _, _, rfl, ?_, ⟨_, rfl⟩, hWT, hsameT.mono (by decide) (by decide)⟩
    · show Steps p.tables e below (s₁.setTop (mkF m 3 #[.val (.long q0), .second, .val (.long q1), .second] [(.int (XT.cmpL q0 q1))])) _
      refine XS.ifYes X0.here hx rfl (pc0 := 3) (pc' := 10) rfl (hb hby d2_3) rfl (XT.ll_lt_t hc3_4) (by decide) (by decide) ?_
      show Steps p.tables e below (s₁.setTop (mkF m 10 #[.val (.long q0), .second, .val (.long q1), .second] [])) _
      refine XS.lloadN X0.here hx rfl (hb hby d2_10) rfl ?_
      show Steps p.tables e below (s₁.setTop (mkF m 11 #[.val (.long q0), .second, .val (.long q1), .second] [(.long q1)])) _
      exact retOut X0 hx Bd.returns rfl (by right; left; exact ⟨rfl, rfl, _, rfl⟩) (hb hby d2_11) hrT
    · show Q2 Z q0 q1 h0 n0 _ s₁.heap _
      rw [e0]
      have hv : f_maxL q0 q1 = q1 := by unfold f_maxL; rw [if_pos hc3_4]
      exact ⟨(congrArg (fun z => some (Value.long z)) hv.symm), N0, rfl⟩
  case neg =>
    obtain ⟨fs, hrT, hrunT, hendT, hWT, hsameT⟩ := X0.leave (hlocks := BodyLoose.notSynchronized Bd) (v := some (.long q0)) (fun h => by rw [Bd.returns] at h; cases h)
    refine ⟨_, _, S3 _ ?_, hrunT, hendT, _, _, rfl, ?_, ⟨_, rfl⟩, hWT, hsameT.mono (by decide) (by decide)⟩
    · show Steps p.tables e below (s₁.setTop (mkF m 3 #[.val (.long q0), .second, .val (.long q1), .second] [(.int (XT.cmpL q0 q1))])) _
      refine XS.ifNo X0.here hx rfl (hb hby d2_3) rfl (XT.ll_lt_f hc3_4) ?_
      show Steps p.tables e below (s₁.setTop (mkF m 6 #[.val (.long q0), .second, .val (.long q1), .second] [])) _
      refine XS.lloadN X0.here hx rfl (hb hby d2_6) rfl ?_
      show Steps p.tables e below (s₁.setTop (mkF m 7 #[.val (.long q0), .second, .val (.long q1), .second] [(.long q0)])) _
      refine XS.goto X0.here hx rfl (pc0 := 7) (pc' := 11) rfl (hb hby d2_7) (by decide) (by decide) ?_
      show Steps p.tables e below (s₁.setTop (mkF m 11 #[.val (.long q0), .second, .val (.long q1), .second] [(.long q0)])) _
      exact retOut X0 hx Bd.returns rfl (by right; left; exact ⟨rfl, rfl, _, rfl⟩) (hb hby d2_11) hrT
    · show Q2 Z q0 q1 h0 n0 _ s₁.heap _
      rw [e0]
      have hv : f_maxL q0 q1 = q0 := by unfold f_maxL; rw [if_neg hc3_4]
      exact ⟨(congrArg (fun z => some (Value.long z)) hv.symm), N0, rfl⟩
theorem d3_0 : decode prog_33_method_1_code 0 = .ok (.aload_n 0, 1) := by decide +kernel
theorem d3_1 : decode prog_33_method_1_code 1 = .ok (.invokespecial 1, 3) := by decide +kernel
theorem d3_4 : decode prog_33_method_1_code 4 = .ok (.aload_n 0, 1) := by decide +kernel
theorem d3_5 : decode prog_33_method_1_code 5 = .ok (.iload_n 1, 1) := by decide +kernel
theorem d3_6 : decode prog_33_method_1_code 6 = .ok (.putfield 7, 3) := by decide +kernel
theorem d3_9 : decode prog_33_method_1_code 9 = .ok (.aload_n 0, 1) := by decide +kernel
theorem d3_10 : decode prog_33_method_1_code 10 = .ok (.iload_n 2, 1) := by decide +kernel
theorem d3_11 : decode prog_33_method_1_code 11 = .ok (.putfield 13, 3) := by decide +kernel
theorem d3_14 : decode prog_33_method_1_code 14 = .ok (.aload_n 0, 1) := by decide +kernel
theorem d3_15 : decode prog_33_method_1_code 15 = .ok (.lload_n 3, 1) := by decide +kernel
theorem d3_16 : decode prog_33_method_1_code 16 = .ok (.putfield 16, 3) := by decide +kernel
theorem d3_19 : decode prog_33_method_1_code 19 = .ok (.return_, 1) := by decide +kernel
theorem pn_IntervalBucket : plainName "com/example/even_bucket/evenbucket/IntervalBucket" = true := by first | (simp [plainName, overriddenIn]; done) | decide +kernel
theorem ef3 (m : MethodId) (x0 : Addr) (x1 : Int32) (x2 : Int32) (x3 : Int64) : entryFrame m #[(.ref x0), (.int x1), (.int x2), (.long x3)] 5 = mkF m 0 #[.val (.ref x0), .val (.int x1), .val (.int x2), .val (.long x3), .second] [] := by first | (simp [entryFrame, mkF, argsToLocals, Value.category]; done) | rfl
def Q3 (Z : State) (r0 : Addr) (p1 : Int32) (p2 : Int32) (q3 : Int64) (h0 : Heap) (n0 : Nat) (v : Option Value) (h : Heap) (L : List Loc) : Prop := v = none ∧ Fr n0 L ∧ Keep h0 h [r0] ∧ Fld Z h r0 "com/example/even_bucket/evenbucket/IntervalBucket" "capacity" "I" (.int p1) ∧ Fld Z h r0 "com/example/even_bucket/evenbucket/IntervalBucket" "refill" "I" (.int p2) ∧ Fld Z h r0 "com/example/even_bucket/evenbucket/IntervalBucket" "periodMillis" "J" (.long q3) ∧ Fld Z h r0 "com/example/even_bucket/evenbucket/IntervalBucket" "permits" "J" (.long (0 : Int64)) ∧ Fld Z h r0 "com/example/even_bucket/evenbucket/IntervalBucket" "origin" "J" (.long (0 : Int64)) ∧ Fld Z h r0 "com/example/even_bucket/evenbucket/IntervalBucket" "newest" "J" (.long (0 : Int64)) ∧ Fld Z h r0 "com/example/even_bucket/evenbucket/IntervalBucket" "admitted" "Z" (.int (0 : Int32)) ∧ Fld Z h r0 "com/example/even_bucket/evenbucket/IntervalBucket" "decidedAt" "J" (.long (0 : Int64))
set_option maxRecDepth 65536 in
set_option maxHeartbeats 40000000 in
theorem rm3 (l : Launch) (Z : State) (a0 : Array Value) (hw : ∀ d ∈ tables_1, d.before a0 Z = true) (ws : List Jvm.Cond) (r0 : Addr) (p1 : Int32) (p2 : Int32) (q3 : Int64) (h0 : Heap) (n0 : Nat) (Z0 : n0 ≤ h0.size) (F0 : Fld Z h0 r0 "com/example/even_bucket/evenbucket/IntervalBucket" "capacity" "I" (.int (0 : Int32))) (F1 : Fld Z h0 r0 "com/example/even_bucket/evenbucket/IntervalBucket" "refill" "I" (.int (0 : Int32))) (F2 : Fld Z h0 r0 "com/example/even_bucket/evenbucket/IntervalBucket" "periodMillis" "J" (.long (0 : Int64))) (F3 : Fld Z h0 r0 "com/example/even_bucket/evenbucket/IntervalBucket" "permits" "J" (.long (0 : Int64))) (F4 : Fld Z h0 r0 "com/example/even_bucket/evenbucket/IntervalBucket" "origin" "J" (.long (0 : Int64))) (F5 : Fld Z h0 r0 "com/example/even_bucket/evenbucket/IntervalBucket" "newest" "J" (.long (0 : Int64))) (F6 : Fld Z h0 r0 "com/example/even_bucket/evenbucket/IntervalBucket" "admitted" "Z" (.int (0 : Int32))) (F7 : Fld Z h0 r0 "com/example/even_bucket/evenbucket/IntervalBucket" "decidedAt" "J" (.long (0 : Int64))) (E1 : Exa Z h0 r0 "com/example/even_bucket/evenbucket/IntervalBucket") (g1 : n0 ≤ r0) :
    MetFree l (⟨"com/example/even_bucket/evenbucket/IntervalBucket", "<init>", "(IIJ)V"⟩ : MethodName) (head1 (Jvm.Cond.code (⟨"com/example/even_bucket/evenbucket/IntervalBucket", "<init>", "(IIJ)V"⟩ : MethodName) prog_33_method_1_code 5 none :: ws) ({ frames := 1, cells := 0, slots := 0, locals := 12 } : Room)) (fun a U => a = #[(.ref r0), (.int p1), (.int p2), (.long q3)] ∧ Z.Warmed39 U.vm ∧ U.heap = h0) (fun _ _ _ _ _ => True) (fun _ U o U' => ∃ v L, o = .returned v ∧ Q3 Z r0 p1 p2 q3 h0 n0 v U'.heap L ∧ FrameEnd U o U' L ({ frames := 1, cells := 0, slots := 0, locals := 12 } : Room).cells ({ frames := 1, cells := 0, slots := 0, locals := 12 } : Room).slots) := by
  refine MetFree.of_bodySF (plainFor_of_name pn_IntervalBucket) hisR ?_
  intro p e s m args below meth c s₁ Bd hml0 hP hK
  obtain ⟨rfl, hZ, hh⟩ := hP
  have hx := Bd.exec
  have hby := Bd.bytes
  have hml : c.maxLocals = 5 := hml0
  have hown : s.vm.findClass "com/example/even_bucket/evenbucket/IntervalBucket" = some m.cls := findClass_of_methodNamed Bd.named
  have hnm := (name_of_methodNamed Bd.named Bd.method).1
  have X0 : Stand p l e ({ frames := 1, cells := 0, slots := 0, locals := 12 } : Room) s m #[(.ref r0), (.int p1), (.int p2), (.long q3)] below meth c s₁ [] 0 0 := Stand.of_body Bd
  have e0 : s₁.heap = h0 := by rw [← hh, Bd.state]; rfl
  have N0 := Fr.nil n0
  have pre0 : ∀ t, Steps p.tables e below (s₁.setTop (mkF m 0 #[.val (.ref r0), .val (.int p1), .val (.int p2), .val (.long q3), .second] [])) t → Steps p.tables e below (s₁.setTop (entryFrame m #[(.ref r0), (.int p1), (.int p2), (.long q3)] 5)) t := fun t k => castTop (ef3 m r0 p1 p2 q3) k
  obtain ⟨T5, X5, e5, st5⟩ := initO X0 hx hZ hown (hw _ (List.mem_of_getElem? (i := 15) rfl)) (hw _ (List.mem_of_getElem? (i := 16) rfl)) (hw _ (List.mem_of_getElem? (i := 17) rfl)) e0 (g := (mkF m 1 #[.val (.ref r0), .val (.int p1), .val (.int p2), .val (.long q3), .second] [(.ref r0)])) rfl (by rw [hml]; rfl) rfl (hb hby d3_1) (by decide) (W := 0) (by show 2 * 0 + _ ≤ _; exact Nat.le_of_eq rfl) (by decide)
  obtain ⟨T6, h6, X6, e6, W6, st6⟩ := putF X5 hx hZ hown (host := "") (Or.inl (hw _ (List.mem_of_getElem? (i := 18) rfl))) Via.refl e5 F0 E1 (Or.inr ⟨(hw _ (List.mem_of_getElem? (i := 19) rfl)), rfl, hnm⟩) (hw _ (List.mem_of_getElem? (i := 10) rfl)) (ty := .int) (by decide) rfl rfl (g := (mkF m 6 #[.val (.ref r0), .val (.int p1), .val (.int p2), .val (.long q3), .second] [(.int p1), (.ref r0)])) rfl rfl (hb hby d3_6)
  have K7 : Keep h0 h6 [r0] := (Keep.refl h0 [r0]).wr W6 (Or.inl (List.mem_of_getElem? (i := 0) rfl))
  have c8 : Fld Z h6 r0 "com/example/even_bucket/evenbucket/IntervalBucket" "capacity" "I" (.int p1) := F0.same W6
  have N9 := Fr.snoc X6 N0 g1
  have c10 : Exa Z h6 r0 "com/example/even_bucket/evenbucket/IntervalBucket" := (E1.wr W6)
  have c11 : Fld Z h6 r0 "com/example/even_bucket/evenbucket/IntervalBucket" "refill" "I" (.int (0 : Int32)) := (F1.other W6 (Or.inr (slot_ne (Or.inr (hw _ (List.mem_of_getElem? (i := 21) rfl))) (Or.inr (hw _ (List.mem_of_getElem? (i := 19) rfl))) (by decide) (t := .int) (t' := .int) (by decide) (by decide))))
  obtain ⟨T12, h12, X12, e12, W12, st12⟩ := putF X6 hx hZ hown (host := "") (Or.inl (hw _ (List.mem_of_getElem? (i := 20) rfl))) Via.refl e6 c11 c10 (Or.inr ⟨(hw _ (List.mem_of_getElem? (i := 21) rfl)), rfl, hnm⟩) (hw _ (List.mem_of_getElem? (i := 10) rfl)) (ty := .int) (by decide) rfl rfl (g := (mkF m 11 #[.val (.ref r0), .val (.int p1), .val (.int p2), .val (.long q3), .second] [(.int p2), (.ref r0)])) rfl rfl (hb hby d3_11)
  have K13 : Keep h0 h12 [r0] := K7.wr W12 (Or.inl (List.mem_of_getElem? (i := 0) rfl))
  have c14 : Fld Z h12 r0 "com/example/even_bucket/evenbucket/IntervalBucket" "refill" "I" (.int p2) := c11.same W12
  have N15 := Fr.snoc X12 N9 g1
  have c16 : Exa Z h12 r0 "com/example/even_bucket/evenbucket/IntervalBucket" := (c10.wr W12)
  have c17 : Fld Z h12 r0 "com/example/even_bucket/evenbucket/IntervalBucket" "periodMillis" "J" (.long (0 : Int64)) := ((F2.other W6 (Or.inr (slot_ne (Or.inr (hw _ (List.mem_of_getElem? (i := 23) rfl))) (Or.inr (hw _ (List.mem_of_getElem? (i := 19) rfl))) (by decide) (t := .long) (t' := .int) (by decide) (by decide)))).other W12 (Or.inr (slot_ne (Or.inr (hw _ (List.mem_of_getElem? (i := 23) rfl))) (Or.inr (hw _ (List.mem_of_getElem? (i := 21) rfl))) (by decide) (t := .long) (t' := .int) (by decide) (by decide))))
  obtain ⟨T18, h18, X18, e18, W18, st18⟩ := putF X12 hx hZ hown (host := "") (Or.inl (hw _ (List.mem_of_getElem? (i := 22) rfl))) Via.refl e12 c17 c16 (Or.inr ⟨(hw _ (List.mem_of_getElem? (i := 23) rfl)), rfl, hnm⟩) (hw _ (List.mem_of_getElem? (i := 10) rfl)) (ty := .long) (by decide) rfl rfl (g := (mkF m 16 #[.val (.ref r0), .val (.int p1), .val (.int p2), .val (.long q3), .second] [(.long q3), (.ref r0)])) rfl rfl (hb hby d3_16)
  have K19 : Keep h0 h18 [r0] := K13.wr W18 (Or.inl (List.mem_of_getElem? (i := 0) rfl))
  have c20 : Fld Z h18 r0 "com/example/even_bucket/evenbucket/IntervalBucket" "periodMillis" "J" (.long q3) := c17.same W18
  have N21 := Fr.snoc X18 N15 g1
  obtain ⟨fs, hrT, hrunT, hendT, hWT, hsameT⟩ := X18.leave (hlocks := BodyLoose.notSynchronized Bd) (v := none) (fun _ => rfl)
  refine ⟨_, _, pre0 _ ?_, hrunT, hendT, _, _, rfl, ?_, ⟨_, rfl⟩, hWT, hsameT.mono (by decide) (by decide)⟩
  · show Steps p.tables e below (s₁.setTop (mkF m 0 #[.val (.ref r0), .val (.int p1), .val (.int p2), .val (.long q3), .second] [])) _
    refine XS.aloadN X0.here hx rfl (hb hby d3_0) rfl rfl ?_
    show Steps p.tables e below (s₁.setTop (mkF m 1 #[.val (.ref r0), .val (.int p1), .val (.int p2), .val (.long q3), .second] [(.ref r0)])) _
    refine st5 _ ?_
    show Steps p.tables e below (T5.setTop (mkF m 4 #[.val (.ref r0), .val (.int p1), .val (.int p2), .val (.long q3), .second] [])) _
    refine XS.aloadN X5.here hx rfl (hb hby d3_4) rfl rfl ?_
    show Steps p.tables e below (T5.setTop (mkF m 5 #[.val (.ref r0), .val (.int p1), .val (.int p2), .val (.long q3), .second] [(.ref r0)])) _
    refine XS.iloadN X5.here hx rfl (hb hby d3_5) rfl ?_
    show Steps p.tables e below (T5.setTop (mkF m 6 #[.val (.ref r0), .val (.int p1), .val (.int p2), .val (.long q3), .second] [(.int p1), (.ref r0)])) _
    refine st6 _ ?_
    show Steps p.tables e below (T6.setTop (mkF m 9 #[.val (.ref r0), .val (.int p1), .val (.int p2), .val (.long q3), .second] [])) _
    refine XS.aloadN X6.here hx rfl (hb hby d3_9) rfl rfl ?_
    show Steps p.tables e below (T6.setTop (mkF m 10 #[.val (.ref r0), .val (.int p1), .val (.int p2), .val (.long q3), .second] [(.ref r0)])) _
    refine XS.iloadN X6.here hx rfl (hb hby d3_10) rfl ?_
    show Steps p.tables e below (T6.setTop (mkF m 11 #[.val (.ref r0), .val (.int p1), .val (.int p2), .val (.long q3), .second] [(.int p2), (.ref r0)])) _
    refine st12 _ ?_
    show Steps p.tables e below (T12.setTop (mkF m 14 #[.val (.ref r0), .val (.int p1), .val (.int p2), .val (.long q3), .second] [])) _
    refine XS.aloadN X12.here hx rfl (hb hby d3_14) rfl rfl ?_
    show Steps p.tables e below (T12.setTop (mkF m 15 #[.val (.ref r0), .val (.int p1), .val (.int p2), .val (.long q3), .second] [(.ref r0)])) _
    refine XS.lloadN X12.here hx rfl (hb hby d3_15) rfl ?_
    show Steps p.tables e below (T12.setTop (mkF m 16 #[.val (.ref r0), .val (.int p1), .val (.int p2), .val (.long q3), .second] [(.long q3), (.ref r0)])) _
    refine st18 _ ?_
    show Steps p.tables e below (T18.setTop (mkF m 19 #[.val (.ref r0), .val (.int p1), .val (.int p2), .val (.long q3), .second] [])) _
    exact X18.returnOut hx Bd.returns (hb hby d3_19) hrT
  · show Q3 Z r0 p1 p2 q3 h0 n0 _ T18.heap _
    rw [e18]
    have c22 : Fld Z h18 r0 "com/example/even_bucket/evenbucket/IntervalBucket" "capacity" "I" (.int p1) := ((c8.other W12 (Or.inr (slot_ne (Or.inr (hw _ (List.mem_of_getElem? (i := 19) rfl))) (Or.inr (hw _ (List.mem_of_getElem? (i := 21) rfl))) (by decide) (t := .int) (t' := .int) (by decide) (by decide)))).other W18 (Or.inr (slot_ne (Or.inr (hw _ (List.mem_of_getElem? (i := 19) rfl))) (Or.inr (hw _ (List.mem_of_getElem? (i := 23) rfl))) (by decide) (t := .int) (t' := .long) (by decide) (by decide))))
    have c23 : Fld Z h18 r0 "com/example/even_bucket/evenbucket/IntervalBucket" "refill" "I" (.int p2) := (c14.other W18 (Or.inr (slot_ne (Or.inr (hw _ (List.mem_of_getElem? (i := 21) rfl))) (Or.inr (hw _ (List.mem_of_getElem? (i := 23) rfl))) (by decide) (t := .int) (t' := .long) (by decide) (by decide))))
    have c24 : Fld Z h18 r0 "com/example/even_bucket/evenbucket/IntervalBucket" "permits" "J" (.long (0 : Int64)) := (((F3.other W6 (Or.inr (slot_ne (Or.inl (hw _ (List.mem_of_getElem? (i := 36) rfl))) (Or.inr (hw _ (List.mem_of_getElem? (i := 19) rfl))) (by decide) (t := .long) (t' := .int) (by decide) (by decide)))).other W12 (Or.inr (slot_ne (Or.inl (hw _ (List.mem_of_getElem? (i := 36) rfl))) (Or.inr (hw _ (List.mem_of_getElem? (i := 21) rfl))) (by decide) (t := .long) (t' := .int) (by decide) (by decide)))).other W18 (Or.inr (slot_ne (Or.inl (hw _ (List.mem_of_getElem? (i := 36) rfl))) (Or.inr (hw _ (List.mem_of_getElem? (i := 23) rfl))) (by decide) (t := .long) (t' := .long) (by decide) (by decide))))
    have c25 : Fld Z h18 r0 "com/example/even_bucket/evenbucket/IntervalBucket" "origin" "J" (.long (0 : Int64)) := (((F4.other W6 (Or.inr (slot_ne (Or.inl (hw _ (List.mem_of_getElem? (i := 32) rfl))) (Or.inr (hw _ (List.mem_of_getElem? (i := 19) rfl))) (by decide) (t := .long) (t' := .int) (by decide) (by decide)))).other W12 (Or.inr (slot_ne (Or.inl (hw _ (List.mem_of_getElem? (i := 32) rfl))) (Or.inr (hw _ (List.mem_of_getElem? (i := 21) rfl))) (by decide) (t := .long) (t' := .int) (by decide) (by decide)))).other W18 (Or.inr (slot_ne (Or.inl (hw _ (List.mem_of_getElem? (i := 32) rfl))) (Or.inr (hw _ (List.mem_of_getElem? (i := 23) rfl))) (by decide) (t := .long) (t' := .long) (by decide) (by decide))))
    have c26 : Fld Z h18 r0 "com/example/even_bucket/evenbucket/IntervalBucket" "newest" "J" (.long (0 : Int64)) := (((F5.other W6 (Or.inr (slot_ne (Or.inl (hw _ (List.mem_of_getElem? (i := 34) rfl))) (Or.inr (hw _ (List.mem_of_getElem? (i := 19) rfl))) (by decide) (t := .long) (t' := .int) (by decide) (by decide)))).other W12 (Or.inr (slot_ne (Or.inl (hw _ (List.mem_of_getElem? (i := 34) rfl))) (Or.inr (hw _ (List.mem_of_getElem? (i := 21) rfl))) (by decide) (t := .long) (t' := .int) (by decide) (by decide)))).other W18 (Or.inr (slot_ne (Or.inl (hw _ (List.mem_of_getElem? (i := 34) rfl))) (Or.inr (hw _ (List.mem_of_getElem? (i := 23) rfl))) (by decide) (t := .long) (t' := .long) (by decide) (by decide))))
    have c27 : Fld Z h18 r0 "com/example/even_bucket/evenbucket/IntervalBucket" "admitted" "Z" (.int (0 : Int32)) := (((F6.other W6 (Or.inr (slot_ne (Or.inl (hw _ (List.mem_of_getElem? (i := 30) rfl))) (Or.inr (hw _ (List.mem_of_getElem? (i := 19) rfl))) (by decide) (t := .boolean) (t' := .int) (by decide) (by decide)))).other W12 (Or.inr (slot_ne (Or.inl (hw _ (List.mem_of_getElem? (i := 30) rfl))) (Or.inr (hw _ (List.mem_of_getElem? (i := 21) rfl))) (by decide) (t := .boolean) (t' := .int) (by decide) (by decide)))).other W18 (Or.inr (slot_ne (Or.inl (hw _ (List.mem_of_getElem? (i := 30) rfl))) (Or.inr (hw _ (List.mem_of_getElem? (i := 23) rfl))) (by decide) (t := .boolean) (t' := .long) (by decide) (by decide))))
    have c28 : Fld Z h18 r0 "com/example/even_bucket/evenbucket/IntervalBucket" "decidedAt" "J" (.long (0 : Int64)) := (((F7.other W6 (Or.inr (slot_ne (Or.inl (hw _ (List.mem_of_getElem? (i := 39) rfl))) (Or.inr (hw _ (List.mem_of_getElem? (i := 19) rfl))) (by decide) (t := .long) (t' := .int) (by decide) (by decide)))).other W12 (Or.inr (slot_ne (Or.inl (hw _ (List.mem_of_getElem? (i := 39) rfl))) (Or.inr (hw _ (List.mem_of_getElem? (i := 21) rfl))) (by decide) (t := .long) (t' := .int) (by decide) (by decide)))).other W18 (Or.inr (slot_ne (Or.inl (hw _ (List.mem_of_getElem? (i := 39) rfl))) (Or.inr (hw _ (List.mem_of_getElem? (i := 23) rfl))) (by decide) (t := .long) (t' := .long) (by decide) (by decide))))
    exact ⟨rfl, N21, K19, c22, c23, c20, c24, c25, c26, c27, c28⟩
theorem d10_0 : decode jdk_35_method_42_code 0 = .ok (.lload_n 0, 1) := by decide +kernel
theorem d10_1 : decode jdk_35_method_42_code 1 = .ok (.lload_n 2, 1) := by decide +kernel
theorem d10_2 : decode jdk_35_method_42_code 2 = .ok (.lcmp, 1) := by decide +kernel
theorem d10_3 : decode jdk_35_method_42_code 3 = .ok (.ifCond .ge 7, 3) := by decide +kernel
theorem d10_6 : decode jdk_35_method_42_code 6 = .ok (.iconst (-1), 1) := by decide +kernel
theorem d10_7 : decode jdk_35_method_42_code 7 = .ok (.goto 14, 3) := by decide +kernel
theorem d10_21 : decode jdk_35_method_42_code 21 = .ok (.ireturn, 1) := by decide +kernel
theorem d10_10 : decode jdk_35_method_42_code 10 = .ok (.lload_n 0, 1) := by decide +kernel
theorem d10_11 : decode jdk_35_method_42_code 11 = .ok (.lload_n 2, 1) := by decide +kernel
theorem d10_12 : decode jdk_35_method_42_code 12 = .ok (.lcmp, 1) := by decide +kernel
theorem d10_13 : decode jdk_35_method_42_code 13 = .ok (.ifCond .ne 7, 3) := by decide +kernel
theorem d10_16 : decode jdk_35_method_42_code 16 = .ok (.iconst 0, 1) := by decide +kernel
theorem d10_17 : decode jdk_35_method_42_code 17 = .ok (.goto 4, 3) := by decide +kernel
theorem d10_20 : decode jdk_35_method_42_code 20 = .ok (.iconst 1, 1) := by decide +kernel
theorem pn_Long : plainName "java/lang/Long" = true := by first | (simp [plainName, overriddenIn]; done) | decide +kernel
def f_cmp (q0 : Int64) (q1 : Int64) : Int32 := (if q0 < q1 then (-1 : Int32) else (if q0 = q1 then (0 : Int32) else (1 : Int32)))
theorem ef10 (m : MethodId) (x0 : Int64) (x1 : Int64) : entryFrame m #[(.long x0), (.long x1)] 4 = mkF m 0 #[.val (.long x0), .second, .val (.long x1), .second] [] := by first | (simp [entryFrame, mkF, argsToLocals, Value.category]; done) | rfl
def Q10 (Z : State) (q0 : Int64) (q1 : Int64) (h0 : Heap) (n0 : Nat) (v : Option Value) (h : Heap) (L : List Loc) : Prop := v = some (.int (f_cmp q0 q1)) ∧ Fr n0 L ∧ h = h0
set_option maxRecDepth 65536 in
set_option maxHeartbeats 40000000 in
theorem rm10 (l : Launch) (Z : State) (a0 : Array Value) (hw : ∀ d ∈ tables_1, d.before a0 Z = true) (ws : List Jvm.Cond) (q0 : Int64) (q1 : Int64) (h0 : Heap) (n0 : Nat) (Z0 : n0 ≤ h0.size) :
    MetFree l (⟨"java/lang/Long", "compare", "(JJ)I"⟩ : MethodName) (head1 (Jvm.Cond.code (⟨"java/lang/Long", "compare", "(JJ)I"⟩ : MethodName) jdk_35_method_42_code 4 (some .int) :: ws) ({ frames := 0, cells := 0, slots := 0, locals := 0 } : Room)) (fun a U => a = #[(.long q0), (.long q1)] ∧ Z.Warmed39 U.vm ∧ U.heap = h0) (fun _ _ _ _ _ => True) (fun _ U o U' => ∃ v L, o = .returned v ∧ Q10 Z q0 q1 h0 n0 v U'.heap L ∧ FrameEnd U o U' L ({ frames := 0, cells := 0, slots := 0, locals := 0 } : Room).cells ({ frames := 0, cells := 0, slots := 0, locals := 0 } : Room).slots) := by
  refine MetFree.of_bodySF (plainFor_of_name pn_Long) hisR ?_
  intro p e s m args below meth c s₁ Bd hml0 hP hK
  obtain ⟨rfl, hZ, hh⟩ := hP
  have hx := Bd.exec
  have hby := Bd.bytes
  have hml : c.maxLocals = 4 := hml0
  have hown : s.vm.findClass "java/lang/Long" = some m.cls := findClass_of_methodNamed Bd.named
  have hnm := (name_of_methodNamed Bd.named Bd.method).1
  have X0 : Stand p l e ({ frames := 0, cells := 0, slots := 0, locals := 0 } : Room) s m #[(.long q0), (.long q1)] below meth c s₁ [] 0 0 := Stand.of_body Bd
  have e0 : s₁.heap = h0 := by rw [← hh, Bd.state]; rfl
  have N0 := Fr.nil n0
  have pre0 : ∀ t, Steps p.tables e below (s₁.setTop (mkF m 0 #[.val (.long q0), .second, .val (.long q1), .second] [])) t → Steps p.tables e below (s₁.setTop (entryFrame m #[(.long q0), (.long q1)] 4)) t := fun t k => castTop (ef10 m q0 q1) k
  have S29 : ∀ t, Steps p.tables e below (s₁.setTop (mkF m 3 #[.val (.long q0), .second, .val (.long q1), .second] [(.int (XT.cmpL q0 q1))])) t → Steps p.tables e below (s₁.setTop (entryFrame m #[(.long q0), (.long q1)] 4)) t := by
    intro t kt
    refine pre0 _ ?_
    show Steps p.tables e below (s₁.setTop (mkF m 0 #[.val (.long q0), .second, .val (.long q1), .second] [])) _
    refine XS.lloadN X0.here hx rfl (hb hby d10_0) rfl ?_
    show Steps p.tables e below (s₁.setTop (mkF m 1 #[.val (.long q0), .second, .val (.long q1), .second] [(.long q0)])) _
    refine XS.lloadN X0.here hx rfl (hb hby d10_1) rfl ?_
    show Steps p.tables e below (s₁.setTop (mkF m 2 #[.val (.long q0), .second, .val (.long q1), .second] [(.long q1), (.long q0)])) _
    refine XT.lcmp X0.here hx rfl (hb hby d10_2) rfl ?_
    exact kt
  by_cases hc3_30 : q0 < q1
  case pos =>
    obtain ⟨fs, hrT, hrunT, hendT, hWT, hsameT⟩ := X0.leave (hlocks := BodyLoose.notSynchronized Bd) (v := some (.int (-1 : Int32))) (fun h => by rw [Bd.returns] at h; cases h)
    refine ⟨_, _, S29 _ ?_, hrunT, hendT, _, _, rfl, ?_, ⟨_, rfl⟩, hWT, hsameT.mono (by decide) (by decide)⟩
    · show Steps p.tables e below (s₁.setTop (mkF m 3 #[.val (.long q0), .second, .val (.long q1), .second] [(.int (XT.cmpL q0 q1))])) _
      refine XS.ifNo X0.here hx rfl (hb hby d10_3) rfl (XT.ll_ge_f hc3_30) ?_
      show Steps p.tables e below (s₁.setTop (mkF m 6 #[.val (.long q0), .second, .val (.long q1), .second] [])) _
      refine XS.iconst X0.here hx rfl (hb hby d10_6) ?_
      show Steps p.tables e below (s₁.setTop (mkF m 7 #[.val (.long q0), .second, .val (.long q1), .second] [(.int (-1 : Int32))])) _
      refine XS.goto X0.here hx rfl (pc0 := 7) (pc' := 21) rfl (hb hby d10_7) (by decide) (by decide) ?_
      show Steps p.tables e below (s₁.setTop (mkF m 21 #[.val (.long q0), .second, .val (.long q1), .second] [(.int (-1 : Int32))])) _
      exact retI X0 hx Bd.returns (hb hby d10_21) hrT
    · show Q10 Z q0 q1 h0 n0 _ s₁.heap _
      rw [e0]
      have hv : f_cmp q0 q1 = (-1 : Int32) := by unfold f_cmp; rw [if_pos hc3_30]
      exact ⟨(congrArg (fun z => some (Value.int z)) hv.symm), N0, rfl⟩
  case neg =>
    have S31 : ∀ t, Steps p.tables e below (s₁.setTop (mkF m 13 #[.val (.long q0), .second, .val (.long q1), .second] [(.int (XT.cmpL q0 q1))])) t → Steps p.tables e below (s₁.setTop (entryFrame m #[(.long q0), (.long q1)] 4)) t := by
      intro t kt
      refine S29 _ ?_
      show Steps p.tables e below (s₁.setTop (mkF m 3 #[.val (.long q0), .second, .val (.long q1), .second] [(.int (XT.cmpL q0 q1))])) _
      refine XS.ifYes X0.here hx rfl (pc0 := 3) (pc' := 10) rfl (hb hby d10_3) rfl (XT.ll_ge_t hc3_30) (by decide) (by decide) ?_
      show Steps p.tables e below (s₁.setTop (mkF m 10 #[.val (.long q0), .second, .val (.long q1), .second] [])) _
      refine XS.lloadN X0.here hx rfl (hb hby d10_10) rfl ?_
      show Steps p.tables e below (s₁.setTop (mkF m 11 #[.val (.long q0), .second, .val (.long q1), .second] [(.long q0)])) _
      refine XS.lloadN X0.here hx rfl (hb hby d10_11) rfl ?_
      show Steps p.tables e below (s₁.setTop (mkF m 12 #[.val (.long q0), .second, .val (.long q1), .second] [(.long q1), (.long q0)])) _
      refine XT.lcmp X0.here hx rfl (hb hby d10_12) rfl ?_
      exact kt
    by_cases hc13_32 : q0 = q1
    case pos =>
      obtain ⟨fs, hrT, hrunT, hendT, hWT, hsameT⟩ := X0.leave (hlocks := BodyLoose.notSynchronized Bd) (v := some (.int (0 : Int32))) (fun h => by rw [Bd.returns] at h; cases h)
      refine ⟨_, _, S31 _ ?_, hrunT, hendT, _, _, rfl, ?_, ⟨_, rfl⟩, hWT, hsameT.mono (by decide) (by decide)⟩
      · show Steps p.tables e below (s₁.setTop (mkF m 13 #[.val (.long q0), .second, .val (.long q1), .second] [(.int (XT.cmpL q0 q1))])) _
        refine XS.ifNo X0.here hx rfl (hb hby d10_13) rfl (XT.ll_ne_f hc13_32) ?_
        show Steps p.tables e below (s₁.setTop (mkF m 16 #[.val (.long q0), .second, .val (.long q1), .second] [])) _
        refine XS.iconst X0.here hx rfl (hb hby d10_16) ?_
        show Steps p.tables e below (s₁.setTop (mkF m 17 #[.val (.long q0), .second, .val (.long q1), .second] [(.int (0 : Int32))])) _
        refine XS.goto X0.here hx rfl (pc0 := 17) (pc' := 21) rfl (hb hby d10_17) (by decide) (by decide) ?_
        show Steps p.tables e below (s₁.setTop (mkF m 21 #[.val (.long q0), .second, .val (.long q1), .second] [(.int (0 : Int32))])) _
        exact retI X0 hx Bd.returns (hb hby d10_21) hrT
      · show Q10 Z q0 q1 h0 n0 _ s₁.heap _
        rw [e0]
        have hv : f_cmp q0 q1 = (0 : Int32) := by unfold f_cmp; rw [if_neg hc3_30]; rw [if_pos hc13_32]
        exact ⟨(congrArg (fun z => some (Value.int z)) hv.symm), N0, rfl⟩
    case neg =>
      obtain ⟨fs, hrT, hrunT, hendT, hWT, hsameT⟩ := X0.leave (hlocks := BodyLoose.notSynchronized Bd) (v := some (.int (1 : Int32))) (fun h => by rw [Bd.returns] at h; cases h)
      refine ⟨_, _, S31 _ ?_, hrunT, hendT, _, _, rfl, ?_, ⟨_, rfl⟩, hWT, hsameT.mono (by decide) (by decide)⟩
      · show Steps p.tables e below (s₁.setTop (mkF m 13 #[.val (.long q0), .second, .val (.long q1), .second] [(.int (XT.cmpL q0 q1))])) _
        refine XS.ifYes X0.here hx rfl (pc0 := 13) (pc' := 20) rfl (hb hby d10_13) rfl (XT.ll_ne_t hc13_32) (by decide) (by decide) ?_
        show Steps p.tables e below (s₁.setTop (mkF m 20 #[.val (.long q0), .second, .val (.long q1), .second] [])) _
        refine XS.iconst X0.here hx rfl (hb hby d10_20) ?_
        show Steps p.tables e below (s₁.setTop (mkF m 21 #[.val (.long q0), .second, .val (.long q1), .second] [(.int (1 : Int32))])) _
        exact retI X0 hx Bd.returns (hb hby d10_21) hrT
      · show Q10 Z q0 q1 h0 n0 _ s₁.heap _
        rw [e0]
        have hv : f_cmp q0 q1 = (1 : Int32) := by unfold f_cmp; rw [if_neg hc3_30]; rw [if_neg hc13_32]
        exact ⟨(congrArg (fun z => some (Value.int z)) hv.symm), N0, rfl⟩
theorem d9_0 : decode jdk_35_method_43_code 0 = .ok (.lload_n 0, 1) := by decide +kernel
theorem d9_1 : decode jdk_35_method_43_code 1 = .ok (.ldc2_w 168, 3) := by decide +kernel
theorem d9_4 : decode jdk_35_method_43_code 4 = .ok (.ladd, 1) := by decide +kernel
theorem d9_5 : decode jdk_35_method_43_code 5 = .ok (.lload_n 2, 1) := by decide +kernel
theorem d9_6 : decode jdk_35_method_43_code 6 = .ok (.ldc2_w 168, 3) := by decide +kernel
theorem d9_9 : decode jdk_35_method_43_code 9 = .ok (.ladd, 1) := by decide +kernel
theorem pd__JJ_I : parseMethodDescriptor "(JJ)I" = some ⟨[.long, .long], some .int⟩ := by decide +kernel
theorem d9_10 : decode jdk_35_method_43_code 10 = .ok (.invokestatic 302, 3) := by decide +kernel
theorem d9_13 : decode jdk_35_method_43_code 13 = .ok (.ireturn, 1) := by decide +kernel
theorem ef9 (m : MethodId) (x0 : Int64) (x1 : Int64) : entryFrame m #[(.long x0), (.long x1)] 4 = mkF m 0 #[.val (.long x0), .second, .val (.long x1), .second] [] := by first | (simp [entryFrame, mkF, argsToLocals, Value.category]; done) | rfl
def Q9 (Z : State) (q0 : Int64) (q1 : Int64) (h0 : Heap) (n0 : Nat) (v : Option Value) (h : Heap) (L : List Loc) : Prop := v = some (.int (f_cmp (q0 + (-9223372036854775808 : Int64)) (q1 + (-9223372036854775808 : Int64)))) ∧ Fr n0 L ∧ h = h0
set_option maxRecDepth 65536 in
set_option maxHeartbeats 40000000 in
theorem rm9 (l : Launch) (Z : State) (a0 : Array Value) (hw : ∀ d ∈ tables_1, d.before a0 Z = true) (ws : List Jvm.Cond) (q0 : Int64) (q1 : Int64) (h0 : Heap) (n0 : Nat) (Z0 : n0 ≤ h0.size) :
    MetFree l (⟨"java/lang/Long", "compareUnsigned", "(JJ)I"⟩ : MethodName) (head1 (Jvm.Cond.code (⟨"java/lang/Long", "compareUnsigned", "(JJ)I"⟩ : MethodName) jdk_35_method_43_code 4 (some .int) :: ws) ({ frames := 1, cells := 0, slots := 0, locals := 15 } : Room)) (fun a U => a = #[(.long q0), (.long q1)] ∧ Z.Warmed39 U.vm ∧ U.heap = h0) (fun _ _ _ _ _ => True) (fun _ U o U' => ∃ v L, o = .returned v ∧ Q9 Z q0 q1 h0 n0 v U'.heap L ∧ FrameEnd U o U' L ({ frames := 1, cells := 0, slots := 0, locals := 15 } : Room).cells ({ frames := 1, cells := 0, slots := 0, locals := 15 } : Room).slots) := by
  refine MetFree.of_bodySF (plainFor_of_name pn_Long) hisR ?_
  intro p e s m args below meth c s₁ Bd hml0 hP hK
  obtain ⟨rfl, hZ, hh⟩ := hP
  have hx := Bd.exec
  have hby := Bd.bytes
  have hml : c.maxLocals = 4 := hml0
  have hown : s.vm.findClass "java/lang/Long" = some m.cls := findClass_of_methodNamed Bd.named
  have hnm := (name_of_methodNamed Bd.named Bd.method).1
  have X0 : Stand p l e ({ frames := 1, cells := 0, slots := 0, locals := 15 } : Room) s m #[(.long q0), (.long q1)] below meth c s₁ [] 0 0 := Stand.of_body Bd
  have e0 : s₁.heap = h0 := by rw [← hh, Bd.state]; rfl
  have N0 := Fr.nil n0
  have pre0 : ∀ t, Steps p.tables e below (s₁.setTop (mkF m 0 #[.val (.long q0), .second, .val (.long q1), .second] [])) t → Steps p.tables e below (s₁.setTop (entryFrame m #[(.long q0), (.long q1)] 4)) t := fun t k => castTop (ef9 m q0 q1) k
  obtain ⟨_, _, ⟨T33, L33, k33, n33⟩, -, X33, ⟨Lc33, hQ33, l33, y33, z33⟩, st33⟩ := Jvm.LawKit.callS X0 hx (y := (⟨"java/lang/Long", "compare", "(JJ)I"⟩ : MethodName)) hown (mvT hZ (hw _ (List.mem_of_getElem? (i := 57) rfl))) (mvT hZ (hw _ (List.mem_of_getElem? (i := 58) rfl))) (mvT hZ (hw _ (List.mem_of_getElem? (i := 50) rfl))) (mvT hZ (hw _ (List.mem_of_getElem? (i := 59) rfl))) (by decide) (backOf (W := 0) (rm10 l Z a0 hw [] (q0 + (-9223372036854775808 : Int64)) (q1 + (-9223372036854775808 : Int64)) h0 n0 Z0 ) hZ (hw _ (List.mem_of_getElem? (i := 59) rfl)) (hw _ (List.mem_of_getElem? (i := 50) rfl)) (by decide) (by decide)) (g := (mkF m 10 #[.val (.long q0), .second, .val (.long q1), .second] [(.long (q1 + (-9223372036854775808 : Int64))), (.long (q0 + (-9223372036854775808 : Int64)))])) rfl (by rw [hml]; rfl) (argsL := [(.long (q0 + (-9223372036854775808 : Int64))), (.long (q1 + (-9223372036854775808 : Int64)))]) (rest := []) (lenOf pd__JJ_I rfl) rfl (by show 2 * 0 + _ ≤ _; exact Nat.le_of_eq rfl) (hb hby d9_10) (fun _ _ => ⟨rfl, e0, (by decide : 0 + 0 ≤ _), (by decide : 0 + 0 ≤ _)⟩)
  dsimp only [Pt.U, Pt.locs, Pt.cells, Pt.slots] at X33 l33 y33 z33 st33 hQ33
  subst l33 y33 z33
  obtain ⟨rfl, Nq33, e33⟩ := hQ33
  have N33 := Fr.app N0 Nq33
  obtain ⟨fs, hrT, hrunT, hendT, hWT, hsameT⟩ := X33.leave (hlocks := BodyLoose.notSynchronized Bd) (v := some (.int (f_cmp (q0 + (-9223372036854775808 : Int64)) (q1 + (-9223372036854775808 : Int64))))) (fun h => by rw [Bd.returns] at h; cases h)
  refine ⟨_, _, pre0 _ ?_, hrunT, hendT, _, _, rfl, ?_, ⟨_, rfl⟩, hWT, hsameT.mono (by decide) (by decide)⟩
  · show Steps p.tables e below (s₁.setTop (mkF m 0 #[.val (.long q0), .second, .val (.long q1), .second] [])) _
    refine XS.lloadN X0.here hx rfl (hb hby d9_0) rfl ?_
    show Steps p.tables e below (s₁.setTop (mkF m 1 #[.val (.long q0), .second, .val (.long q1), .second] [(.long q0)])) _
    refine X0.ldc2Long hx hown (mvT hZ (hw _ (List.mem_of_getElem? (i := 56) rfl))) (g := (mkF m 1 #[.val (.long q0), .second, .val (.long q1), .second] [(.long q0)])) rfl (hb hby d9_1) _ ?_
    show Steps p.tables e below (s₁.setTop (mkF m 4 #[.val (.long q0), .second, .val (.long q1), .second] [(.long (-9223372036854775808 : Int64)), (.long q0)])) _
    refine XS.ladd X0.here hx rfl (hb hby d9_4) rfl ?_
    show Steps p.tables e below (s₁.setTop (mkF m 5 #[.val (.long q0), .second, .val (.long q1), .second] [(.long (q0 + (-9223372036854775808 : Int64)))])) _
    refine XS.lloadN X0.here hx rfl (hb hby d9_5) rfl ?_
    show Steps p.tables e below (s₁.setTop (mkF m 6 #[.val (.long q0), .second, .val (.long q1), .second] [(.long q1), (.long (q0 + (-9223372036854775808 : Int64)))])) _
    refine X0.ldc2Long hx hown (mvT hZ (hw _ (List.mem_of_getElem? (i := 56) rfl))) (g := (mkF m 6 #[.val (.long q0), .second, .val (.long q1), .second] [(.long q1), (.long (q0 + (-9223372036854775808 : Int64)))])) rfl (hb hby d9_6) _ ?_
    show Steps p.tables e below (s₁.setTop (mkF m 9 #[.val (.long q0), .second, .val (.long q1), .second] [(.long (-9223372036854775808 : Int64)), (.long q1), (.long (q0 + (-9223372036854775808 : Int64)))])) _
    refine XS.ladd X0.here hx rfl (hb hby d9_9) rfl ?_
    show Steps p.tables e below (s₁.setTop (mkF m 10 #[.val (.long q0), .second, .val (.long q1), .second] [(.long (q1 + (-9223372036854775808 : Int64))), (.long (q0 + (-9223372036854775808 : Int64)))])) _
    refine st33 _ ?_
    show Steps p.tables e below (T33.setTop (mkF m 13 #[.val (.long q0), .second, .val (.long q1), .second] [(.int (f_cmp (q0 + (-9223372036854775808 : Int64)) (q1 + (-9223372036854775808 : Int64))))])) _
    exact retI X33 hx Bd.returns (hb hby d9_13) hrT
  · show Q9 Z q0 q1 h0 n0 _ T33.heap _
    rw [e33]
    exact ⟨rfl, N33, rfl⟩
theorem own_nn {d : Int64} (h : 1 ≤ d.toInt) : ¬ d < (0 : Int64) ∧ ¬ d = 0 := by
  have z : (0 : Int64).toInt = 0 := rfl
  refine ⟨by rw [Int64.lt_iff_toInt_lt, z]; omega, fun e => ?_⟩
  have := congrArg Int64.toInt e
  omega
theorem own_not {d : Int64} (h : 1 ≤ d.toInt) : (((0 : Int64) - d) ^^^ (-1 : Int64)) = d - 1 := by
  apply Int64.toBitVec_inj.mp
  show ((0#64 - d.toBitVec) ^^^ (-1#64)) = d.toBitVec - 1#64
  have e : ∀ x : BitVec 64, x ^^^ (-1#64) = ~~~ x := fun x => by rw [show (-1#64 : BitVec 64) = BitVec.allOnes 64 from by decide, BitVec.xor_allOnes]
  rw [e, BitVec.not_sub_eq_not_add]
  simp [BitVec.sub_eq_add_neg, BitVec.add_comm]
theorem own_dm {d : Int64} (h : 1 ≤ d.toInt) : (d - 1).toInt = d.toInt - 1 := by
  have o : (1 : Int64).toInt = 1 := rfl
  have := d.toInt_lt
  rw [Jvm.Kit.i64_sub (by omega) (by omega), o]
theorem own_z1 : (((0 : Int64).toUInt64 >>> ((1 : Int32) &&& 0x3f).toInt64.toUInt64).toInt64) = 0 := by decide
theorem own_zd (d : Int64) : ((0 : Int64) / d) = 0 := by
  rw [← Int64.toInt_inj, Int64.toInt_div]; simp
theorem own_zs : ((0 : Int64) <<< ((1 : Int32) &&& 0x3f).toInt64) = 0 := by decide
theorem own_sh {x : Int64} (h : 0 ≤ x.toInt) : ((x.toUInt64 >>> ((63 : Int32) &&& 0x3f).toInt64.toUInt64).toInt64) = 0 := by
  rw [← Int64.toInt_inj, Jvm.Kit.i64_lushr (k := 63) (Jvm.Kit.i64_nonneg.mpr h) (by decide) (by decide)]
  have := x.toInt_lt
  rw [show (0 : Int64).toInt = 0 from rfl]
  exact Int.ediv_eq_zero_of_lt h (by omega)
theorem own_sa {x : Int64} (h : 0 ≤ x.toInt) : (x >>> ((63 : Int32) &&& 0x3f).toInt64) = 0 := by
  rw [← Int64.toInt_inj, Jvm.Kit.i64_shr (k := 63) _ _ (by decide)]
  have := x.toInt_lt
  rw [show (0 : Int64).toInt = 0 from rfl]
  exact Int.ediv_eq_zero_of_lt h (by omega)
theorem own_or0' (x : Int64) : ((0 : Int64) ||| x) = x := by apply Int64.toBitVec_inj.mp; show (0#64 ||| x.toBitVec) = _; simp
theorem own_and0' (x : Int64) : ((0 : Int64) &&& x) = 0 := by apply Int64.toBitVec_inj.mp; show (0#64 &&& x.toBitVec) = 0#64; simp
theorem d8_0 : decode jdk_35_method_44_code 0 = .ok (.lload_n 2, 1) := by decide +kernel
theorem d8_1 : decode jdk_35_method_44_code 1 = .ok (.lconst 0, 1) := by decide +kernel
theorem d8_2 : decode jdk_35_method_44_code 2 = .ok (.lcmp, 1) := by decide +kernel
theorem d8_3 : decode jdk_35_method_44_code 3 = .ok (.ifCond .lt 38, 3) := by decide +kernel
theorem d8_6 : decode jdk_35_method_44_code 6 = .ok (.lload_n 0, 1) := by decide +kernel
theorem d8_7 : decode jdk_35_method_44_code 7 = .ok (.iconst 1, 1) := by decide +kernel
theorem d8_8 : decode jdk_35_method_44_code 8 = .ok (.lushr, 1) := by decide +kernel
theorem d8_9 : decode jdk_35_method_44_code 9 = .ok (.lload_n 2, 1) := by decide +kernel
theorem d8_10 : decode jdk_35_method_44_code 10 = .ok (.ldiv, 1) := by decide +kernel
theorem d8_11 : decode jdk_35_method_44_code 11 = .ok (.iconst 1, 1) := by decide +kernel
theorem d8_12 : decode jdk_35_method_44_code 12 = .ok (.lshl, 1) := by decide +kernel
theorem d8_13 : decode jdk_35_method_44_code 13 = .ok (.lstore 4, 2) := by decide +kernel
theorem d8_15 : decode jdk_35_method_44_code 15 = .ok (.lload_n 0, 1) := by decide +kernel
theorem d8_16 : decode jdk_35_method_44_code 16 = .ok (.lload 4, 2) := by decide +kernel
theorem d8_18 : decode jdk_35_method_44_code 18 = .ok (.lload_n 2, 1) := by decide +kernel
theorem d8_19 : decode jdk_35_method_44_code 19 = .ok (.lmul, 1) := by decide +kernel
theorem d8_20 : decode jdk_35_method_44_code 20 = .ok (.lsub, 1) := by decide +kernel
theorem d8_21 : decode jdk_35_method_44_code 21 = .ok (.lstore 6, 2) := by decide +kernel
theorem d8_23 : decode jdk_35_method_44_code 23 = .ok (.lload 4, 2) := by decide +kernel
theorem d8_25 : decode jdk_35_method_44_code 25 = .ok (.lload 6, 2) := by decide +kernel
theorem d8_27 : decode jdk_35_method_44_code 27 = .ok (.lload 6, 2) := by decide +kernel
theorem d8_29 : decode jdk_35_method_44_code 29 = .ok (.lload_n 2, 1) := by decide +kernel
theorem d8_30 : decode jdk_35_method_44_code 30 = .ok (.lsub, 1) := by decide +kernel
theorem d8_31 : decode jdk_35_method_44_code 31 = .ok (.ldc2_w 306, 3) := by decide +kernel
theorem d8_34 : decode jdk_35_method_44_code 34 = .ok (.lxor, 1) := by decide +kernel
theorem d8_35 : decode jdk_35_method_44_code 35 = .ok (.lor, 1) := by decide +kernel
theorem d8_36 : decode jdk_35_method_44_code 36 = .ok (.bipush 63, 2) := by decide +kernel
theorem d8_38 : decode jdk_35_method_44_code 38 = .ok (.lushr, 1) := by decide +kernel
theorem d8_39 : decode jdk_35_method_44_code 39 = .ok (.ladd, 1) := by decide +kernel
theorem d8_40 : decode jdk_35_method_44_code 40 = .ok (.lreturn, 1) := by decide +kernel
theorem ef8 (m : MethodId) (x0 : Int64) (x1 : Int64) : entryFrame m #[(.long x0), (.long x1)] 8 = mkF m 0 #[.val (.long x0), .second, .val (.long x1), .second, .unset, .unset, .unset, .unset] [] := by first | (simp [entryFrame, mkF, argsToLocals, Value.category]; done) | rfl
def Q8 (Z : State) (q0 : Int64) (q1 : Int64) (h0 : Heap) (n0 : Nat) (v : Option Value) (h : Heap) (L : List Loc) : Prop := v = some (.long (0 : Int64)) ∧ Fr n0 L ∧ h = h0
set_option maxRecDepth 65536 in
set_option maxHeartbeats 40000000 in
theorem rm8 (l : Launch) (Z : State) (a0 : Array Value) (hw : ∀ d ∈ tables_1, d.before a0 Z = true) (ws : List Jvm.Cond) (q0 : Int64) (q1 : Int64) (h0 : Heap) (n0 : Nat) (Z0 : n0 ≤ h0.size) (hz : q0 = 0) (hd : 1 ≤ q1.toInt) :
    MetFree l (⟨"java/lang/Long", "divideUnsigned", "(JJ)J"⟩ : MethodName) (head1 (Jvm.Cond.code (⟨"java/lang/Long", "divideUnsigned", "(JJ)J"⟩ : MethodName) jdk_35_method_44_code 8 (some .long) :: ws) ({ frames := 0, cells := 0, slots := 0, locals := 0 } : Room)) (fun a U => a = #[(.long q0), (.long q1)] ∧ Z.Warmed39 U.vm ∧ U.heap = h0) (fun _ _ _ _ _ => True) (fun _ U o U' => ∃ v L, o = .returned v ∧ Q8 Z q0 q1 h0 n0 v U'.heap L ∧ FrameEnd U o U' L ({ frames := 0, cells := 0, slots := 0, locals := 0 } : Room).cells ({ frames := 0, cells := 0, slots := 0, locals := 0 } : Room).slots) := by
  refine MetFree.of_bodySF (plainFor_of_name pn_Long) hisR ?_
  intro p e s m args below meth c s₁ Bd hml0 hP hK
  obtain ⟨rfl, hZ, hh⟩ := hP
  have hx := Bd.exec
  have hby := Bd.bytes
  have hml : c.maxLocals = 8 := hml0
  have hown : s.vm.findClass "java/lang/Long" = some m.cls := findClass_of_methodNamed Bd.named
  have hnm := (name_of_methodNamed Bd.named Bd.method).1
  have X0 : Stand p l e ({ frames := 0, cells := 0, slots := 0, locals := 0 } : Room) s m #[(.long q0), (.long q1)] below meth c s₁ [] 0 0 := Stand.of_body Bd
  have e0 : s₁.heap = h0 := by rw [← hh, Bd.state]; rfl
  have N0 := Fr.nil n0
  have pre0 : ∀ t, Steps p.tables e below (s₁.setTop (mkF m 0 #[.val (.long q0), .second, .val (.long q1), .second, .unset, .unset, .unset, .unset] [])) t → Steps p.tables e below (s₁.setTop (entryFrame m #[(.long q0), (.long q1)] 8)) t := fun t k => castTop (ef8 m q0 q1) k
  obtain ⟨fs, hrT, hrunT, hendT, hWT, hsameT⟩ := X0.leave (hlocks := BodyLoose.notSynchronized Bd) (v := some (.long (((((q0.toUInt64 >>> ((1 : Int32) &&& 0x3f).toInt64.toUInt64).toInt64) / q1) <<< ((1 : Int32) &&& 0x3f).toInt64) + ((((q0 - (((((q0.toUInt64 >>> ((1 : Int32) &&& 0x3f).toInt64.toUInt64).toInt64) / q1) <<< ((1 : Int32) &&& 0x3f).toInt64) * q1)) ||| (((q0 - (((((q0.toUInt64 >>> ((1 : Int32) &&& 0x3f).toInt64.toUInt64).toInt64) / q1) <<< ((1 : Int32) &&& 0x3f).toInt64) * q1)) - q1) ^^^ (-1 : Int64))).toUInt64 >>> ((63 : Int32) &&& 0x3f).toInt64.toUInt64).toInt64)))) (fun h => by rw [Bd.returns] at h; cases h)
  refine ⟨_, _, pre0 _ ?_, hrunT, hendT, _, _, rfl, ?_, ⟨_, rfl⟩, hWT, hsameT.mono (by decide) (by decide)⟩
  · show Steps p.tables e below (s₁.setTop (mkF m 0 #[.val (.long q0), .second, .val (.long q1), .second, .unset, .unset, .unset, .unset] [])) _
    refine XS.lloadN X0.here hx rfl (hb hby d8_0) rfl ?_
    show Steps p.tables e below (s₁.setTop (mkF m 1 #[.val (.long q0), .second, .val (.long q1), .second, .unset, .unset, .unset, .unset] [(.long q1)])) _
    refine XS.lconst X0.here hx rfl (hb hby d8_1) ?_
    show Steps p.tables e below (s₁.setTop (mkF m 2 #[.val (.long q0), .second, .val (.long q1), .second, .unset, .unset, .unset, .unset] [(.long (0 : Int64)), (.long q1)])) _
    refine XT.lcmp X0.here hx rfl (hb hby d8_2) rfl ?_
    show Steps p.tables e below (s₁.setTop (mkF m 3 #[.val (.long q0), .second, .val (.long q1), .second, .unset, .unset, .unset, .unset] [(.int (XT.cmpL q1 (0 : Int64)))])) _
    refine XS.ifNo X0.here hx rfl (hb hby d8_3) rfl (XT.ll_lt_f (own_nn hd).1) ?_
    show Steps p.tables e below (s₁.setTop (mkF m 6 #[.val (.long q0), .second, .val (.long q1), .second, .unset, .unset, .unset, .unset] [])) _
    refine XS.lloadN X0.here hx rfl (hb hby d8_6) rfl ?_
    show Steps p.tables e below (s₁.setTop (mkF m 7 #[.val (.long q0), .second, .val (.long q1), .second, .unset, .unset, .unset, .unset] [(.long q0)])) _
    refine XS.iconst X0.here hx rfl (hb hby d8_7) ?_
    show Steps p.tables e below (s₁.setTop (mkF m 8 #[.val (.long q0), .second, .val (.long q1), .second, .unset, .unset, .unset, .unset] [(.int (1 : Int32)), (.long q0)])) _
    refine XS.lushr X0.here hx rfl (hb hby d8_8) rfl ?_
    show Steps p.tables e below (s₁.setTop (mkF m 9 #[.val (.long q0), .second, .val (.long q1), .second, .unset, .unset, .unset, .unset] [(.long ((q0.toUInt64 >>> ((1 : Int32) &&& 0x3f).toInt64.toUInt64).toInt64))])) _
    refine XS.lloadN X0.here hx rfl (hb hby d8_9) rfl ?_
    show Steps p.tables e below (s₁.setTop (mkF m 10 #[.val (.long q0), .second, .val (.long q1), .second, .unset, .unset, .unset, .unset] [(.long q1), (.long ((q0.toUInt64 >>> ((1 : Int32) &&& 0x3f).toInt64.toUInt64).toInt64))])) _
    refine XS.ldiv X0.here hx rfl (hb hby d8_10) rfl (own_nn hd).2 ?_
    show Steps p.tables e below (s₁.setTop (mkF m 11 #[.val (.long q0), .second, .val (.long q1), .second, .unset, .unset, .unset, .unset] [(.long (((q0.toUInt64 >>> ((1 : Int32) &&& 0x3f).toInt64.toUInt64).toInt64) / q1))])) _
    refine XS.iconst X0.here hx rfl (hb hby d8_11) ?_
    show Steps p.tables e below (s₁.setTop (mkF m 12 #[.val (.long q0), .second, .val (.long q1), .second, .unset, .unset, .unset, .unset] [(.int (1 : Int32)), (.long (((q0.toUInt64 >>> ((1 : Int32) &&& 0x3f).toInt64.toUInt64).toInt64) / q1))])) _
    refine XS.lshl X0.here hx rfl (hb hby d8_12) rfl ?_
    show Steps p.tables e below (s₁.setTop (mkF m 13 #[.val (.long q0), .second, .val (.long q1), .second, .unset, .unset, .unset, .unset] [(.long ((((q0.toUInt64 >>> ((1 : Int32) &&& 0x3f).toInt64.toUInt64).toInt64) / q1) <<< ((1 : Int32) &&& 0x3f).toInt64))])) _
    refine XS.lstore X0.here hx rfl (hb hby d8_13) rfl (l' := #[.val (.long q0), .second, .val (.long q1), .second, .val (.long ((((q0.toUInt64 >>> ((1 : Int32) &&& 0x3f).toInt64.toUInt64).toInt64) / q1) <<< ((1 : Int32) &&& 0x3f).toInt64)), .second, .unset, .unset]) rfl ?_
    show Steps p.tables e below (s₁.setTop (mkF m 15 #[.val (.long q0), .second, .val (.long q1), .second, .val (.long ((((q0.toUInt64 >>> ((1 : Int32) &&& 0x3f).toInt64.toUInt64).toInt64) / q1) <<< ((1 : Int32) &&& 0x3f).toInt64)), .second, .unset, .unset] [])) _
    refine XS.lloadN X0.here hx rfl (hb hby d8_15) rfl ?_
    show Steps p.tables e below (s₁.setTop (mkF m 16 #[.val (.long q0), .second, .val (.long q1), .second, .val (.long ((((q0.toUInt64 >>> ((1 : Int32) &&& 0x3f).toInt64.toUInt64).toInt64) / q1) <<< ((1 : Int32) &&& 0x3f).toInt64)), .second, .unset, .unset] [(.long q0)])) _
    refine XS.lload X0.here hx rfl (hb hby d8_16) rfl ?_
    show Steps p.tables e below (s₁.setTop (mkF m 18 #[.val (.long q0), .second, .val (.long q1), .second, .val (.long ((((q0.toUInt64 >>> ((1 : Int32) &&& 0x3f).toInt64.toUInt64).toInt64) / q1) <<< ((1 : Int32) &&& 0x3f).toInt64)), .second, .unset, .unset] [(.long ((((q0.toUInt64 >>> ((1 : Int32) &&& 0x3f).toInt64.toUInt64).toInt64) / q1) <<< ((1 : Int32) &&& 0x3f).toInt64)), (.long q0)])) _
    refine XS.lloadN X0.here hx rfl (hb hby d8_18) rfl ?_
    show Steps p.tables e below (s₁.setTop (mkF m 19 #[.val (.long q0), .second, .val (.long q1), .second, .val (.long ((((q0.toUInt64 >>> ((1 : Int32) &&& 0x3f).toInt64.toUInt64).toInt64) / q1) <<< ((1 : Int32) &&& 0x3f).toInt64)), .second, .unset, .unset] [(.long q1), (.long ((((q0.toUInt64 >>> ((1 : Int32) &&& 0x3f).toInt64.toUInt64).toInt64) / q1) <<< ((1 : Int32) &&& 0x3f).toInt64)), (.long q0)])) _
    refine XS.lmul X0.here hx rfl (hb hby d8_19) rfl ?_
    show Steps p.tables e below (s₁.setTop (mkF m 20 #[.val (.long q0), .second, .val (.long q1), .second, .val (.long ((((q0.toUInt64 >>> ((1 : Int32) &&& 0x3f).toInt64.toUInt64).toInt64) / q1) <<< ((1 : Int32) &&& 0x3f).toInt64)), .second, .unset, .unset] [(.long (((((q0.toUInt64 >>> ((1 : Int32) &&& 0x3f).toInt64.toUInt64).toInt64) / q1) <<< ((1 : Int32) &&& 0x3f).toInt64) * q1)), (.long q0)])) _
    refine XS.lsub X0.here hx rfl (hb hby d8_20) rfl ?_
    show Steps p.tables e below (s₁.setTop (mkF m 21 #[.val (.long q0), .second, .val (.long q1), .second, .val (.long ((((q0.toUInt64 >>> ((1 : Int32) &&& 0x3f).toInt64.toUInt64).toInt64) / q1) <<< ((1 : Int32) &&& 0x3f).toInt64)), .second, .unset, .unset] [(.long (q0 - (((((q0.toUInt64 >>> ((1 : Int32) &&& 0x3f).toInt64.toUInt64).toInt64) / q1) <<< ((1 : Int32) &&& 0x3f).toInt64) * q1)))])) _
    refine XS.lstore X0.here hx rfl (hb hby d8_21) rfl (l' := #[.val (.long q0), .second, .val (.long q1), .second, .val (.long ((((q0.toUInt64 >>> ((1 : Int32) &&& 0x3f).toInt64.toUInt64).toInt64) / q1) <<< ((1 : Int32) &&& 0x3f).toInt64)), .second, .val (.long (q0 - (((((q0.toUInt64 >>> ((1 : Int32) &&& 0x3f).toInt64.toUInt64).toInt64) / q1) <<< ((1 : Int32) &&& 0x3f).toInt64) * q1))), .second]) rfl ?_
    show Steps p.tables e below (s₁.setTop (mkF m 23 #[.val (.long q0), .second, .val (.long q1), .second, .val (.long ((((q0.toUInt64 >>> ((1 : Int32) &&& 0x3f).toInt64.toUInt64).toInt64) / q1) <<< ((1 : Int32) &&& 0x3f).toInt64)), .second, .val (.long (q0 - (((((q0.toUInt64 >>> ((1 : Int32) &&& 0x3f).toInt64.toUInt64).toInt64) / q1) <<< ((1 : Int32) &&& 0x3f).toInt64) * q1))), .second] [])) _
    refine XS.lload X0.here hx rfl (hb hby d8_23) rfl ?_
    show Steps p.tables e below (s₁.setTop (mkF m 25 #[.val (.long q0), .second, .val (.long q1), .second, .val (.long ((((q0.toUInt64 >>> ((1 : Int32) &&& 0x3f).toInt64.toUInt64).toInt64) / q1) <<< ((1 : Int32) &&& 0x3f).toInt64)), .second, .val (.long (q0 - (((((q0.toUInt64 >>> ((1 : Int32) &&& 0x3f).toInt64.toUInt64).toInt64) / q1) <<< ((1 : Int32) &&& 0x3f).toInt64) * q1))), .second] [(.long ((((q0.toUInt64 >>> ((1 : Int32) &&& 0x3f).toInt64.toUInt64).toInt64) / q1) <<< ((1 : Int32) &&& 0x3f).toInt64))])) _
    refine XS.lload X0.here hx rfl (hb hby d8_25) rfl ?_
    show Steps p.tables e below (s₁.setTop (mkF m 27 #[.val (.long q0), .second, .val (.long q1), .second, .val (.long ((((q0.toUInt64 >>> ((1 : Int32) &&& 0x3f).toInt64.toUInt64).toInt64) / q1) <<< ((1 : Int32) &&& 0x3f).toInt64)), .second, .val (.long (q0 - (((((q0.toUInt64 >>> ((1 : Int32) &&& 0x3f).toInt64.toUInt64).toInt64) / q1) <<< ((1 : Int32) &&& 0x3f).toInt64) * q1))), .second] [(.long (q0 - (((((q0.toUInt64 >>> ((1 : Int32) &&& 0x3f).toInt64.toUInt64).toInt64) / q1) <<< ((1 : Int32) &&& 0x3f).toInt64) * q1))), (.long ((((q0.toUInt64 >>> ((1 : Int32) &&& 0x3f).toInt64.toUInt64).toInt64) / q1) <<< ((1 : Int32) &&& 0x3f).toInt64))])) _
    refine XS.lload X0.here hx rfl (hb hby d8_27) rfl ?_
    show Steps p.tables e below (s₁.setTop (mkF m 29 #[.val (.long q0), .second, .val (.long q1), .second, .val (.long ((((q0.toUInt64 >>> ((1 : Int32) &&& 0x3f).toInt64.toUInt64).toInt64) / q1) <<< ((1 : Int32) &&& 0x3f).toInt64)), .second, .val (.long (q0 - (((((q0.toUInt64 >>> ((1 : Int32) &&& 0x3f).toInt64.toUInt64).toInt64) / q1) <<< ((1 : Int32) &&& 0x3f).toInt64) * q1))), .second] [(.long (q0 - (((((q0.toUInt64 >>> ((1 : Int32) &&& 0x3f).toInt64.toUInt64).toInt64) / q1) <<< ((1 : Int32) &&& 0x3f).toInt64) * q1))), (.long (q0 - (((((q0.toUInt64 >>> ((1 : Int32) &&& 0x3f).toInt64.toUInt64).toInt64) / q1) <<< ((1 : Int32) &&& 0x3f).toInt64) * q1))), (.long ((((q0.toUInt64 >>> ((1 : Int32) &&& 0x3f).toInt64.toUInt64).toInt64) / q1) <<< ((1 : Int32) &&& 0x3f).toInt64))])) _
    refine XS.lloadN X0.here hx rfl (hb hby d8_29) rfl ?_
    show Steps p.tables e below (s₁.setTop (mkF m 30 #[.val (.long q0), .second, .val (.long q1), .second, .val (.long ((((q0.toUInt64 >>> ((1 : Int32) &&& 0x3f).toInt64.toUInt64).toInt64) / q1) <<< ((1 : Int32) &&& 0x3f).toInt64)), .second, .val (.long (q0 - (((((q0.toUInt64 >>> ((1 : Int32) &&& 0x3f).toInt64.toUInt64).toInt64) / q1) <<< ((1 : Int32) &&& 0x3f).toInt64) * q1))), .second] [(.long q1), (.long (q0 - (((((q0.toUInt64 >>> ((1 : Int32) &&& 0x3f).toInt64.toUInt64).toInt64) / q1) <<< ((1 : Int32) &&& 0x3f).toInt64) * q1))), (.long (q0 - (((((q0.toUInt64 >>> ((1 : Int32) &&& 0x3f).toInt64.toUInt64).toInt64) / q1) <<< ((1 : Int32) &&& 0x3f).toInt64) * q1))), (.long ((((q0.toUInt64 >>> ((1 : Int32) &&& 0x3f).toInt64.toUInt64).toInt64) / q1) <<< ((1 : Int32) &&& 0x3f).toInt64))])) _
    refine XS.lsub X0.here hx rfl (hb hby d8_30) rfl ?_
    show Steps p.tables e below (s₁.setTop (mkF m 31 #[.val (.long q0), .second, .val (.long q1), .second, .val (.long ((((q0.toUInt64 >>> ((1 : Int32) &&& 0x3f).toInt64.toUInt64).toInt64) / q1) <<< ((1 : Int32) &&& 0x3f).toInt64)), .second, .val (.long (q0 - (((((q0.toUInt64 >>> ((1 : Int32) &&& 0x3f).toInt64.toUInt64).toInt64) / q1) <<< ((1 : Int32) &&& 0x3f).toInt64) * q1))), .second] [(.long ((q0 - (((((q0.toUInt64 >>> ((1 : Int32) &&& 0x3f).toInt64.toUInt64).toInt64) / q1) <<< ((1 : Int32) &&& 0x3f).toInt64) * q1)) - q1)), (.long (q0 - (((((q0.toUInt64 >>> ((1 : Int32) &&& 0x3f).toInt64.toUInt64).toInt64) / q1) <<< ((1 : Int32) &&& 0x3f).toInt64) * q1))), (.long ((((q0.toUInt64 >>> ((1 : Int32) &&& 0x3f).toInt64.toUInt64).toInt64) / q1) <<< ((1 : Int32) &&& 0x3f).toInt64))])) _
    refine X0.ldc2Long hx hown (mvT hZ (hw _ (List.mem_of_getElem? (i := 52) rfl))) (g := (mkF m 31 #[.val (.long q0), .second, .val (.long q1), .second, .val (.long ((((q0.toUInt64 >>> ((1 : Int32) &&& 0x3f).toInt64.toUInt64).toInt64) / q1) <<< ((1 : Int32) &&& 0x3f).toInt64)), .second, .val (.long (q0 - (((((q0.toUInt64 >>> ((1 : Int32) &&& 0x3f).toInt64.toUInt64).toInt64) / q1) <<< ((1 : Int32) &&& 0x3f).toInt64) * q1))), .second] [(.long ((q0 - (((((q0.toUInt64 >>> ((1 : Int32) &&& 0x3f).toInt64.toUInt64).toInt64) / q1) <<< ((1 : Int32) &&& 0x3f).toInt64) * q1)) - q1)), (.long (q0 - (((((q0.toUInt64 >>> ((1 : Int32) &&& 0x3f).toInt64.toUInt64).toInt64) / q1) <<< ((1 : Int32) &&& 0x3f).toInt64) * q1))), (.long ((((q0.toUInt64 >>> ((1 : Int32) &&& 0x3f).toInt64.toUInt64).toInt64) / q1) <<< ((1 : Int32) &&& 0x3f).toInt64))])) rfl (hb hby d8_31) _ ?_
    show Steps p.tables e below (s₁.setTop (mkF m 34 #[.val (.long q0), .second, .val (.long q1), .second, .val (.long ((((q0.toUInt64 >>> ((1 : Int32) &&& 0x3f).toInt64.toUInt64).toInt64) / q1) <<< ((1 : Int32) &&& 0x3f).toInt64)), .second, .val (.long (q0 - (((((q0.toUInt64 >>> ((1 : Int32) &&& 0x3f).toInt64.toUInt64).toInt64) / q1) <<< ((1 : Int32) &&& 0x3f).toInt64) * q1))), .second] [(.long (-1 : Int64)), (.long ((q0 - (((((q0.toUInt64 >>> ((1 : Int32) &&& 0x3f).toInt64.toUInt64).toInt64) / q1) <<< ((1 : Int32) &&& 0x3f).toInt64) * q1)) - q1)), (.long (q0 - (((((q0.toUInt64 >>> ((1 : Int32) &&& 0x3f).toInt64.toUInt64).toInt64) / q1) <<< ((1 : Int32) &&& 0x3f).toInt64) * q1))), (.long ((((q0.toUInt64 >>> ((1 : Int32) &&& 0x3f).toInt64.toUInt64).toInt64) / q1) <<< ((1 : Int32) &&& 0x3f).toInt64))])) _
    refine XS.lxor X0.here hx rfl (hb hby d8_34) rfl ?_
    show Steps p.tables e below (s₁.setTop (mkF m 35 #[.val (.long q0), .second, .val (.long q1), .second, .val (.long ((((q0.toUInt64 >>> ((1 : Int32) &&& 0x3f).toInt64.toUInt64).toInt64) / q1) <<< ((1 : Int32) &&& 0x3f).toInt64)), .second, .val (.long (q0 - (((((q0.toUInt64 >>> ((1 : Int32) &&& 0x3f).toInt64.toUInt64).toInt64) / q1) <<< ((1 : Int32) &&& 0x3f).toInt64) * q1))), .second] [(.long (((q0 - (((((q0.toUInt64 >>> ((1 : Int32) &&& 0x3f).toInt64.toUInt64).toInt64) / q1) <<< ((1 : Int32) &&& 0x3f).toInt64) * q1)) - q1) ^^^ (-1 : Int64))), (.long (q0 - (((((q0.toUInt64 >>> ((1 : Int32) &&& 0x3f).toInt64.toUInt64).toInt64) / q1) <<< ((1 : Int32) &&& 0x3f).toInt64) * q1))), (.long ((((q0.toUInt64 >>> ((1 : Int32) &&& 0x3f).toInt64.toUInt64).toInt64) / q1) <<< ((1 : Int32) &&& 0x3f).toInt64))])) _
    refine XS.lor X0.here hx rfl (hb hby d8_35) rfl ?_
    show Steps p.tables e below (s₁.setTop (mkF m 36 #[.val (.long q0), .second, .val (.long q1), .second, .val (.long ((((q0.toUInt64 >>> ((1 : Int32) &&& 0x3f).toInt64.toUInt64).toInt64) / q1) <<< ((1 : Int32) &&& 0x3f).toInt64)), .second, .val (.long (q0 - (((((q0.toUInt64 >>> ((1 : Int32) &&& 0x3f).toInt64.toUInt64).toInt64) / q1) <<< ((1 : Int32) &&& 0x3f).toInt64) * q1))), .second] [(.long ((q0 - (((((q0.toUInt64 >>> ((1 : Int32) &&& 0x3f).toInt64.toUInt64).toInt64) / q1) <<< ((1 : Int32) &&& 0x3f).toInt64) * q1)) ||| (((q0 - (((((q0.toUInt64 >>> ((1 : Int32) &&& 0x3f).toInt64.toUInt64).toInt64) / q1) <<< ((1 : Int32) &&& 0x3f).toInt64) * q1)) - q1) ^^^ (-1 : Int64)))), (.long ((((q0.toUInt64 >>> ((1 : Int32) &&& 0x3f).toInt64.toUInt64).toInt64) / q1) <<< ((1 : Int32) &&& 0x3f).toInt64))])) _
    refine XS.bipush X0.here hx rfl (hb hby d8_36) ?_
    show Steps p.tables e below (s₁.setTop (mkF m 38 #[.val (.long q0), .second, .val (.long q1), .second, .val (.long ((((q0.toUInt64 >>> ((1 : Int32) &&& 0x3f).toInt64.toUInt64).toInt64) / q1) <<< ((1 : Int32) &&& 0x3f).toInt64)), .second, .val (.long (q0 - (((((q0.toUInt64 >>> ((1 : Int32) &&& 0x3f).toInt64.toUInt64).toInt64) / q1) <<< ((1 : Int32) &&& 0x3f).toInt64) * q1))), .second] [(.int (63 : Int32)), (.long ((q0 - (((((q0.toUInt64 >>> ((1 : Int32) &&& 0x3f).toInt64.toUInt64).toInt64) / q1) <<< ((1 : Int32) &&& 0x3f).toInt64) * q1)) ||| (((q0 - (((((q0.toUInt64 >>> ((1 : Int32) &&& 0x3f).toInt64.toUInt64).toInt64) / q1) <<< ((1 : Int32) &&& 0x3f).toInt64) * q1)) - q1) ^^^ (-1 : Int64)))), (.long ((((q0.toUInt64 >>> ((1 : Int32) &&& 0x3f).toInt64.toUInt64).toInt64) / q1) <<< ((1 : Int32) &&& 0x3f).toInt64))])) _
    refine XS.lushr X0.here hx rfl (hb hby d8_38) rfl ?_
    show Steps p.tables e below (s₁.setTop (mkF m 39 #[.val (.long q0), .second, .val (.long q1), .second, .val (.long ((((q0.toUInt64 >>> ((1 : Int32) &&& 0x3f).toInt64.toUInt64).toInt64) / q1) <<< ((1 : Int32) &&& 0x3f).toInt64)), .second, .val (.long (q0 - (((((q0.toUInt64 >>> ((1 : Int32) &&& 0x3f).toInt64.toUInt64).toInt64) / q1) <<< ((1 : Int32) &&& 0x3f).toInt64) * q1))), .second] [(.long ((((q0 - (((((q0.toUInt64 >>> ((1 : Int32) &&& 0x3f).toInt64.toUInt64).toInt64) / q1) <<< ((1 : Int32) &&& 0x3f).toInt64) * q1)) ||| (((q0 - (((((q0.toUInt64 >>> ((1 : Int32) &&& 0x3f).toInt64.toUInt64).toInt64) / q1) <<< ((1 : Int32) &&& 0x3f).toInt64) * q1)) - q1) ^^^ (-1 : Int64))).toUInt64 >>> ((63 : Int32) &&& 0x3f).toInt64.toUInt64).toInt64)), (.long ((((q0.toUInt64 >>> ((1 : Int32) &&& 0x3f).toInt64.toUInt64).toInt64) / q1) <<< ((1 : Int32) &&& 0x3f).toInt64))])) _
    refine XS.ladd X0.here hx rfl (hb hby d8_39) rfl ?_
    show Steps p.tables e below (s₁.setTop (mkF m 40 #[.val (.long q0), .second, .val (.long q1), .second, .val (.long ((((q0.toUInt64 >>> ((1 : Int32) &&& 0x3f).toInt64.toUInt64).toInt64) / q1) <<< ((1 : Int32) &&& 0x3f).toInt64)), .second, .val (.long (q0 - (((((q0.toUInt64 >>> ((1 : Int32) &&& 0x3f).toInt64.toUInt64).toInt64) / q1) <<< ((1 : Int32) &&& 0x3f).toInt64) * q1))), .second] [(.long (((((q0.toUInt64 >>> ((1 : Int32) &&& 0x3f).toInt64.toUInt64).toInt64) / q1) <<< ((1 : Int32) &&& 0x3f).toInt64) + ((((q0 - (((((q0.toUInt64 >>> ((1 : Int32) &&& 0x3f).toInt64.toUInt64).toInt64) / q1) <<< ((1 : Int32) &&& 0x3f).toInt64) * q1)) ||| (((q0 - (((((q0.toUInt64 >>> ((1 : Int32) &&& 0x3f).toInt64.toUInt64).toInt64) / q1) <<< ((1 : Int32) &&& 0x3f).toInt64) * q1)) - q1) ^^^ (-1 : Int64))).toUInt64 >>> ((63 : Int32) &&& 0x3f).toInt64.toUInt64).toInt64)))])) _
    exact retOut X0 hx Bd.returns rfl (by right; left; exact ⟨rfl, rfl, _, rfl⟩) (hb hby d8_40) hrT
  · show Q8 Z q0 q1 h0 n0 _ s₁.heap _
    rw [e0]
    exact ⟨(by show some (Value.long (((((q0.toUInt64 >>> ((1 : Int32) &&& 0x3f).toInt64.toUInt64).toInt64) / q1) <<< ((1 : Int32) &&& 0x3f).toInt64) + ((((q0 - (((((q0.toUInt64 >>> ((1 : Int32) &&& 0x3f).toInt64.toUInt64).toInt64) / q1) <<< ((1 : Int32) &&& 0x3f).toInt64) * q1)) ||| (((q0 - (((((q0.toUInt64 >>> ((1 : Int32) &&& 0x3f).toInt64.toUInt64).toInt64) / q1) <<< ((1 : Int32) &&& 0x3f).toInt64) * q1)) - q1) ^^^ (-1 : Int64))).toUInt64 >>> ((63 : Int32) &&& 0x3f).toInt64.toUInt64).toInt64))) = some (.long 0); rw [hz, own_z1, own_zd, own_zs, Int64.zero_mul, Int64.sub_self, own_not hd, own_or0', own_sh (by rw [own_dm hd]; omega)]; rfl), N0, rfl⟩
theorem d17_0 : decode jdk_35_method_45_code 0 = .ok (.lload_n 2, 1) := by decide +kernel
theorem d17_1 : decode jdk_35_method_45_code 1 = .ok (.lconst 0, 1) := by decide +kernel
theorem d17_2 : decode jdk_35_method_45_code 2 = .ok (.lcmp, 1) := by decide +kernel
theorem d17_3 : decode jdk_35_method_45_code 3 = .ok (.ifCond .lt 37, 3) := by decide +kernel
theorem d17_6 : decode jdk_35_method_45_code 6 = .ok (.lload_n 0, 1) := by decide +kernel
theorem d17_7 : decode jdk_35_method_45_code 7 = .ok (.iconst 1, 1) := by decide +kernel
theorem d17_8 : decode jdk_35_method_45_code 8 = .ok (.lushr, 1) := by decide +kernel
theorem d17_9 : decode jdk_35_method_45_code 9 = .ok (.lload_n 2, 1) := by decide +kernel
theorem d17_10 : decode jdk_35_method_45_code 10 = .ok (.ldiv, 1) := by decide +kernel
theorem d17_11 : decode jdk_35_method_45_code 11 = .ok (.iconst 1, 1) := by decide +kernel
theorem d17_12 : decode jdk_35_method_45_code 12 = .ok (.lshl, 1) := by decide +kernel
theorem d17_13 : decode jdk_35_method_45_code 13 = .ok (.lstore 4, 2) := by decide +kernel
theorem d17_15 : decode jdk_35_method_45_code 15 = .ok (.lload_n 0, 1) := by decide +kernel
theorem d17_16 : decode jdk_35_method_45_code 16 = .ok (.lload 4, 2) := by decide +kernel
theorem d17_18 : decode jdk_35_method_45_code 18 = .ok (.lload_n 2, 1) := by decide +kernel
theorem d17_19 : decode jdk_35_method_45_code 19 = .ok (.lmul, 1) := by decide +kernel
theorem d17_20 : decode jdk_35_method_45_code 20 = .ok (.lsub, 1) := by decide +kernel
theorem d17_21 : decode jdk_35_method_45_code 21 = .ok (.lstore 6, 2) := by decide +kernel
theorem d17_23 : decode jdk_35_method_45_code 23 = .ok (.lload 6, 2) := by decide +kernel
theorem d17_25 : decode jdk_35_method_45_code 25 = .ok (.lload 6, 2) := by decide +kernel
theorem d17_27 : decode jdk_35_method_45_code 27 = .ok (.lload_n 2, 1) := by decide +kernel
theorem d17_28 : decode jdk_35_method_45_code 28 = .ok (.lsub, 1) := by decide +kernel
theorem d17_29 : decode jdk_35_method_45_code 29 = .ok (.ldc2_w 306, 3) := by decide +kernel
theorem d17_32 : decode jdk_35_method_45_code 32 = .ok (.lxor, 1) := by decide +kernel
theorem d17_33 : decode jdk_35_method_45_code 33 = .ok (.bipush 63, 2) := by decide +kernel
theorem d17_35 : decode jdk_35_method_45_code 35 = .ok (.lshr, 1) := by decide +kernel
theorem d17_36 : decode jdk_35_method_45_code 36 = .ok (.lload_n 2, 1) := by decide +kernel
theorem d17_37 : decode jdk_35_method_45_code 37 = .ok (.land, 1) := by decide +kernel
theorem d17_38 : decode jdk_35_method_45_code 38 = .ok (.lsub, 1) := by decide +kernel
theorem d17_39 : decode jdk_35_method_45_code 39 = .ok (.lreturn, 1) := by decide +kernel
theorem ef17 (m : MethodId) (x0 : Int64) (x1 : Int64) : entryFrame m #[(.long x0), (.long x1)] 8 = mkF m 0 #[.val (.long x0), .second, .val (.long x1), .second, .unset, .unset, .unset, .unset] [] := by first | (simp [entryFrame, mkF, argsToLocals, Value.category]; done) | rfl
def Q17 (Z : State) (q0 : Int64) (q1 : Int64) (h0 : Heap) (n0 : Nat) (v : Option Value) (h : Heap) (L : List Loc) : Prop := v = some (.long (0 : Int64)) ∧ Fr n0 L ∧ h = h0
set_option maxRecDepth 65536 in
set_option maxHeartbeats 40000000 in
theorem rm17 (l : Launch) (Z : State) (a0 : Array Value) (hw : ∀ d ∈ tables_1, d.before a0 Z = true) (ws : List Jvm.Cond) (q0 : Int64) (q1 : Int64) (h0 : Heap) (n0 : Nat) (Z0 : n0 ≤ h0.size) (hz : q0 = 0) (hd : 1 ≤ q1.toInt) :
    MetFree l (⟨"java/lang/Long", "remainderUnsigned", "(JJ)J"⟩ : MethodName) (head1 (Jvm.Cond.code (⟨"java/lang/Long", "remainderUnsigned", "(JJ)J"⟩ : MethodName) jdk_35_method_45_code 8 (some .long) :: ws) ({ frames := 0, cells := 0, slots := 0, locals := 0 } : Room)) (fun a U => a = #[(.long q0), (.long q1)] ∧ Z.Warmed39 U.vm ∧ U.heap = h0) (fun _ _ _ _ _ => True) (fun _ U o U' => ∃ v L, o = .returned v ∧ Q17 Z q0 q1 h0 n0 v U'.heap L ∧ FrameEnd U o U' L ({ frames := 0, cells := 0, slots := 0, locals := 0 } : Room).cells ({ frames := 0, cells := 0, slots := 0, locals := 0 } : Room).slots) := by
  refine MetFree.of_bodySF (plainFor_of_name pn_Long) hisR ?_
  intro p e s m args below meth c s₁ Bd hml0 hP hK
  obtain ⟨rfl, hZ, hh⟩ := hP
  have hx := Bd.exec
  have hby := Bd.bytes
  have hml : c.maxLocals = 8 := hml0
  have hown : s.vm.findClass "java/lang/Long" = some m.cls := findClass_of_methodNamed Bd.named
  have hnm := (name_of_methodNamed Bd.named Bd.method).1
  have X0 : Stand p l e ({ frames := 0, cells := 0, slots := 0, locals := 0 } : Room) s m #[(.long q0), (.long q1)] below meth c s₁ [] 0 0 := Stand.of_body Bd
  have e0 : s₁.heap = h0 := by rw [← hh, Bd.state]; rfl
  have N0 := Fr.nil n0
  have pre0 : ∀ t, Steps p.tables e below (s₁.setTop (mkF m 0 #[.val (.long q0), .second, .val (.long q1), .second, .unset, .unset, .unset, .unset] [])) t → Steps p.tables e below (s₁.setTop (entryFrame m #[(.long q0), (.long q1)] 8)) t := fun t k => castTop (ef17 m q0 q1) k
  obtain ⟨fs, hrT, hrunT, hendT, hWT, hsameT⟩ := X0.leave (hlocks := BodyLoose.notSynchronized Bd) (v := some (.long ((q0 - (((((q0.toUInt64 >>> ((1 : Int32) &&& 0x3f).toInt64.toUInt64).toInt64) / q1) <<< ((1 : Int32) &&& 0x3f).toInt64) * q1)) - (((((q0 - (((((q0.toUInt64 >>> ((1 : Int32) &&& 0x3f).toInt64.toUInt64).toInt64) / q1) <<< ((1 : Int32) &&& 0x3f).toInt64) * q1)) - q1) ^^^ (-1 : Int64)) >>> ((63 : Int32) &&& 0x3f).toInt64) &&& q1)))) (fun h => by rw [Bd.returns] at h; cases h)
  refine ⟨_, _, pre0 _ ?_, hrunT, hendT, _, _, rfl, ?_, ⟨_, rfl⟩, hWT, hsameT.mono (by decide) (by decide)⟩
  · show Steps p.tables e below (s₁.setTop (mkF m 0 #[.val (.long q0), .second, .val (.long q1), .second, .unset, .unset, .unset, .unset] [])) _
    refine XS.lloadN X0.here hx rfl (hb hby d17_0) rfl ?_
    show Steps p.tables e below (s₁.setTop (mkF m 1 #[.val (.long q0), .second, .val (.long q1), .second, .unset, .unset, .unset, .unset] [(.long q1)])) _
    refine XS.lconst X0.here hx rfl (hb hby d17_1) ?_
    show Steps p.tables e below (s₁.setTop (mkF m 2 #[.val (.long q0), .second, .val (.long q1), .second, .unset, .unset, .unset, .unset] [(.long (0 : Int64)), (.long q1)])) _
    refine XT.lcmp X0.here hx rfl (hb hby d17_2) rfl ?_
    show Steps p.tables e below (s₁.setTop (mkF m 3 #[.val (.long q0), .second, .val (.long q1), .second, .unset, .unset, .unset, .unset] [(.int (XT.cmpL q1 (0 : Int64)))])) _
    refine XS.ifNo X0.here hx rfl (hb hby d17_3) rfl (XT.ll_lt_f (own_nn hd).1) ?_
    show Steps p.tables e below (s₁.setTop (mkF m 6 #[.val (.long q0), .second, .val (.long q1), .second, .unset, .unset, .unset, .unset] [])) _
    refine XS.lloadN X0.here hx rfl (hb hby d17_6) rfl ?_
    show Steps p.tables e below (s₁.setTop (mkF m 7 #[.val (.long q0), .second, .val (.long q1), .second, .unset, .unset, .unset, .unset] [(.long q0)])) _
    refine XS.iconst X0.here hx rfl (hb hby d17_7) ?_
    show Steps p.tables e below (s₁.setTop (mkF m 8 #[.val (.long q0), .second, .val (.long q1), .second, .unset, .unset, .unset, .unset] [(.int (1 : Int32)), (.long q0)])) _
    refine XS.lushr X0.here hx rfl (hb hby d17_8) rfl ?_
    show Steps p.tables e below (s₁.setTop (mkF m 9 #[.val (.long q0), .second, .val (.long q1), .second, .unset, .unset, .unset, .unset] [(.long ((q0.toUInt64 >>> ((1 : Int32) &&& 0x3f).toInt64.toUInt64).toInt64))])) _
    refine XS.lloadN X0.here hx rfl (hb hby d17_9) rfl ?_
    show Steps p.tables e below (s₁.setTop (mkF m 10 #[.val (.long q0), .second, .val (.long q1), .second, .unset, .unset, .unset, .unset] [(.long q1), (.long ((q0.toUInt64 >>> ((1 : Int32) &&& 0x3f).toInt64.toUInt64).toInt64))])) _
    refine XS.ldiv X0.here hx rfl (hb hby d17_10) rfl (own_nn hd).2 ?_
    show Steps p.tables e below (s₁.setTop (mkF m 11 #[.val (.long q0), .second, .val (.long q1), .second, .unset, .unset, .unset, .unset] [(.long (((q0.toUInt64 >>> ((1 : Int32) &&& 0x3f).toInt64.toUInt64).toInt64) / q1))])) _
    refine XS.iconst X0.here hx rfl (hb hby d17_11) ?_
    show Steps p.tables e below (s₁.setTop (mkF m 12 #[.val (.long q0), .second, .val (.long q1), .second, .unset, .unset, .unset, .unset] [(.int (1 : Int32)), (.long (((q0.toUInt64 >>> ((1 : Int32) &&& 0x3f).toInt64.toUInt64).toInt64) / q1))])) _
    refine XS.lshl X0.here hx rfl (hb hby d17_12) rfl ?_
    show Steps p.tables e below (s₁.setTop (mkF m 13 #[.val (.long q0), .second, .val (.long q1), .second, .unset, .unset, .unset, .unset] [(.long ((((q0.toUInt64 >>> ((1 : Int32) &&& 0x3f).toInt64.toUInt64).toInt64) / q1) <<< ((1 : Int32) &&& 0x3f).toInt64))])) _
    refine XS.lstore X0.here hx rfl (hb hby d17_13) rfl (l' := #[.val (.long q0), .second, .val (.long q1), .second, .val (.long ((((q0.toUInt64 >>> ((1 : Int32) &&& 0x3f).toInt64.toUInt64).toInt64) / q1) <<< ((1 : Int32) &&& 0x3f).toInt64)), .second, .unset, .unset]) rfl ?_
    show Steps p.tables e below (s₁.setTop (mkF m 15 #[.val (.long q0), .second, .val (.long q1), .second, .val (.long ((((q0.toUInt64 >>> ((1 : Int32) &&& 0x3f).toInt64.toUInt64).toInt64) / q1) <<< ((1 : Int32) &&& 0x3f).toInt64)), .second, .unset, .unset] [])) _
    refine XS.lloadN X0.here hx rfl (hb hby d17_15) rfl ?_
    show Steps p.tables e below (s₁.setTop (mkF m 16 #[.val (.long q0), .second, .val (.long q1), .second, .val (.long ((((q0.toUInt64 >>> ((1 : Int32) &&& 0x3f).toInt64.toUInt64).toInt64) / q1) <<< ((1 : Int32) &&& 0x3f).toInt64)), .second, .unset, .unset] [(.long q0)])) _
    refine XS.lload X0.here hx rfl (hb hby d17_16) rfl ?_
    show Steps p.tables e below (s₁.setTop (mkF m 18 #[.val (.long q0), .second, .val (.long q1), .second, .val (.long ((((q0.toUInt64 >>> ((1 : Int32) &&& 0x3f).toInt64.toUInt64).toInt64) / q1) <<< ((1 : Int32) &&& 0x3f).toInt64)), .second, .unset, .unset] [(.long ((((q0.toUInt64 >>> ((1 : Int32) &&& 0x3f).toInt64.toUInt64).toInt64) / q1) <<< ((1 : Int32) &&& 0x3f).toInt64)), (.long q0)])) _
    refine XS.lloadN X0.here hx rfl (hb hby d17_18) rfl ?_
    show Steps p.tables e below (s₁.setTop (mkF m 19 #[.val (.long q0), .second, .val (.long q1), .second, .val (.long ((((q0.toUInt64 >>> ((1 : Int32) &&& 0x3f).toInt64.toUInt64).toInt64) / q1) <<< ((1 : Int32) &&& 0x3f).toInt64)), .second, .unset, .unset] [(.long q1), (.long ((((q0.toUInt64 >>> ((1 : Int32) &&& 0x3f).toInt64.toUInt64).toInt64) / q1) <<< ((1 : Int32) &&& 0x3f).toInt64)), (.long q0)])) _
    refine XS.lmul X0.here hx rfl (hb hby d17_19) rfl ?_
    show Steps p.tables e below (s₁.setTop (mkF m 20 #[.val (.long q0), .second, .val (.long q1), .second, .val (.long ((((q0.toUInt64 >>> ((1 : Int32) &&& 0x3f).toInt64.toUInt64).toInt64) / q1) <<< ((1 : Int32) &&& 0x3f).toInt64)), .second, .unset, .unset] [(.long (((((q0.toUInt64 >>> ((1 : Int32) &&& 0x3f).toInt64.toUInt64).toInt64) / q1) <<< ((1 : Int32) &&& 0x3f).toInt64) * q1)), (.long q0)])) _
    refine XS.lsub X0.here hx rfl (hb hby d17_20) rfl ?_
    show Steps p.tables e below (s₁.setTop (mkF m 21 #[.val (.long q0), .second, .val (.long q1), .second, .val (.long ((((q0.toUInt64 >>> ((1 : Int32) &&& 0x3f).toInt64.toUInt64).toInt64) / q1) <<< ((1 : Int32) &&& 0x3f).toInt64)), .second, .unset, .unset] [(.long (q0 - (((((q0.toUInt64 >>> ((1 : Int32) &&& 0x3f).toInt64.toUInt64).toInt64) / q1) <<< ((1 : Int32) &&& 0x3f).toInt64) * q1)))])) _
    refine XS.lstore X0.here hx rfl (hb hby d17_21) rfl (l' := #[.val (.long q0), .second, .val (.long q1), .second, .val (.long ((((q0.toUInt64 >>> ((1 : Int32) &&& 0x3f).toInt64.toUInt64).toInt64) / q1) <<< ((1 : Int32) &&& 0x3f).toInt64)), .second, .val (.long (q0 - (((((q0.toUInt64 >>> ((1 : Int32) &&& 0x3f).toInt64.toUInt64).toInt64) / q1) <<< ((1 : Int32) &&& 0x3f).toInt64) * q1))), .second]) rfl ?_
    show Steps p.tables e below (s₁.setTop (mkF m 23 #[.val (.long q0), .second, .val (.long q1), .second, .val (.long ((((q0.toUInt64 >>> ((1 : Int32) &&& 0x3f).toInt64.toUInt64).toInt64) / q1) <<< ((1 : Int32) &&& 0x3f).toInt64)), .second, .val (.long (q0 - (((((q0.toUInt64 >>> ((1 : Int32) &&& 0x3f).toInt64.toUInt64).toInt64) / q1) <<< ((1 : Int32) &&& 0x3f).toInt64) * q1))), .second] [])) _
    refine XS.lload X0.here hx rfl (hb hby d17_23) rfl ?_
    show Steps p.tables e below (s₁.setTop (mkF m 25 #[.val (.long q0), .second, .val (.long q1), .second, .val (.long ((((q0.toUInt64 >>> ((1 : Int32) &&& 0x3f).toInt64.toUInt64).toInt64) / q1) <<< ((1 : Int32) &&& 0x3f).toInt64)), .second, .val (.long (q0 - (((((q0.toUInt64 >>> ((1 : Int32) &&& 0x3f).toInt64.toUInt64).toInt64) / q1) <<< ((1 : Int32) &&& 0x3f).toInt64) * q1))), .second] [(.long (q0 - (((((q0.toUInt64 >>> ((1 : Int32) &&& 0x3f).toInt64.toUInt64).toInt64) / q1) <<< ((1 : Int32) &&& 0x3f).toInt64) * q1)))])) _
    refine XS.lload X0.here hx rfl (hb hby d17_25) rfl ?_
    show Steps p.tables e below (s₁.setTop (mkF m 27 #[.val (.long q0), .second, .val (.long q1), .second, .val (.long ((((q0.toUInt64 >>> ((1 : Int32) &&& 0x3f).toInt64.toUInt64).toInt64) / q1) <<< ((1 : Int32) &&& 0x3f).toInt64)), .second, .val (.long (q0 - (((((q0.toUInt64 >>> ((1 : Int32) &&& 0x3f).toInt64.toUInt64).toInt64) / q1) <<< ((1 : Int32) &&& 0x3f).toInt64) * q1))), .second] [(.long (q0 - (((((q0.toUInt64 >>> ((1 : Int32) &&& 0x3f).toInt64.toUInt64).toInt64) / q1) <<< ((1 : Int32) &&& 0x3f).toInt64) * q1))), (.long (q0 - (((((q0.toUInt64 >>> ((1 : Int32) &&& 0x3f).toInt64.toUInt64).toInt64) / q1) <<< ((1 : Int32) &&& 0x3f).toInt64) * q1)))])) _
    refine XS.lloadN X0.here hx rfl (hb hby d17_27) rfl ?_
    show Steps p.tables e below (s₁.setTop (mkF m 28 #[.val (.long q0), .second, .val (.long q1), .second, .val (.long ((((q0.toUInt64 >>> ((1 : Int32) &&& 0x3f).toInt64.toUInt64).toInt64) / q1) <<< ((1 : Int32) &&& 0x3f).toInt64)), .second, .val (.long (q0 - (((((q0.toUInt64 >>> ((1 : Int32) &&& 0x3f).toInt64.toUInt64).toInt64) / q1) <<< ((1 : Int32) &&& 0x3f).toInt64) * q1))), .second] [(.long q1), (.long (q0 - (((((q0.toUInt64 >>> ((1 : Int32) &&& 0x3f).toInt64.toUInt64).toInt64) / q1) <<< ((1 : Int32) &&& 0x3f).toInt64) * q1))), (.long (q0 - (((((q0.toUInt64 >>> ((1 : Int32) &&& 0x3f).toInt64.toUInt64).toInt64) / q1) <<< ((1 : Int32) &&& 0x3f).toInt64) * q1)))])) _
    refine XS.lsub X0.here hx rfl (hb hby d17_28) rfl ?_
    show Steps p.tables e below (s₁.setTop (mkF m 29 #[.val (.long q0), .second, .val (.long q1), .second, .val (.long ((((q0.toUInt64 >>> ((1 : Int32) &&& 0x3f).toInt64.toUInt64).toInt64) / q1) <<< ((1 : Int32) &&& 0x3f).toInt64)), .second, .val (.long (q0 - (((((q0.toUInt64 >>> ((1 : Int32) &&& 0x3f).toInt64.toUInt64).toInt64) / q1) <<< ((1 : Int32) &&& 0x3f).toInt64) * q1))), .second] [(.long ((q0 - (((((q0.toUInt64 >>> ((1 : Int32) &&& 0x3f).toInt64.toUInt64).toInt64) / q1) <<< ((1 : Int32) &&& 0x3f).toInt64) * q1)) - q1)), (.long (q0 - (((((q0.toUInt64 >>> ((1 : Int32) &&& 0x3f).toInt64.toUInt64).toInt64) / q1) <<< ((1 : Int32) &&& 0x3f).toInt64) * q1)))])) _
    refine X0.ldc2Long hx hown (mvT hZ (hw _ (List.mem_of_getElem? (i := 52) rfl))) (g := (mkF m 29 #[.val (.long q0), .second, .val (.long q1), .second, .val (.long ((((q0.toUInt64 >>> ((1 : Int32) &&& 0x3f).toInt64.toUInt64).toInt64) / q1) <<< ((1 : Int32) &&& 0x3f).toInt64)), .second, .val (.long (q0 - (((((q0.toUInt64 >>> ((1 : Int32) &&& 0x3f).toInt64.toUInt64).toInt64) / q1) <<< ((1 : Int32) &&& 0x3f).toInt64) * q1))), .second] [(.long ((q0 - (((((q0.toUInt64 >>> ((1 : Int32) &&& 0x3f).toInt64.toUInt64).toInt64) / q1) <<< ((1 : Int32) &&& 0x3f).toInt64) * q1)) - q1)), (.long (q0 - (((((q0.toUInt64 >>> ((1 : Int32) &&& 0x3f).toInt64.toUInt64).toInt64) / q1) <<< ((1 : Int32) &&& 0x3f).toInt64) * q1)))])) rfl (hb hby d17_29) _ ?_
    show Steps p.tables e below (s₁.setTop (mkF m 32 #[.val (.long q0), .second, .val (.long q1), .second, .val (.long ((((q0.toUInt64 >>> ((1 : Int32) &&& 0x3f).toInt64.toUInt64).toInt64) / q1) <<< ((1 : Int32) &&& 0x3f).toInt64)), .second, .val (.long (q0 - (((((q0.toUInt64 >>> ((1 : Int32) &&& 0x3f).toInt64.toUInt64).toInt64) / q1) <<< ((1 : Int32) &&& 0x3f).toInt64) * q1))), .second] [(.long (-1 : Int64)), (.long ((q0 - (((((q0.toUInt64 >>> ((1 : Int32) &&& 0x3f).toInt64.toUInt64).toInt64) / q1) <<< ((1 : Int32) &&& 0x3f).toInt64) * q1)) - q1)), (.long (q0 - (((((q0.toUInt64 >>> ((1 : Int32) &&& 0x3f).toInt64.toUInt64).toInt64) / q1) <<< ((1 : Int32) &&& 0x3f).toInt64) * q1)))])) _
    refine XS.lxor X0.here hx rfl (hb hby d17_32) rfl ?_
    show Steps p.tables e below (s₁.setTop (mkF m 33 #[.val (.long q0), .second, .val (.long q1), .second, .val (.long ((((q0.toUInt64 >>> ((1 : Int32) &&& 0x3f).toInt64.toUInt64).toInt64) / q1) <<< ((1 : Int32) &&& 0x3f).toInt64)), .second, .val (.long (q0 - (((((q0.toUInt64 >>> ((1 : Int32) &&& 0x3f).toInt64.toUInt64).toInt64) / q1) <<< ((1 : Int32) &&& 0x3f).toInt64) * q1))), .second] [(.long (((q0 - (((((q0.toUInt64 >>> ((1 : Int32) &&& 0x3f).toInt64.toUInt64).toInt64) / q1) <<< ((1 : Int32) &&& 0x3f).toInt64) * q1)) - q1) ^^^ (-1 : Int64))), (.long (q0 - (((((q0.toUInt64 >>> ((1 : Int32) &&& 0x3f).toInt64.toUInt64).toInt64) / q1) <<< ((1 : Int32) &&& 0x3f).toInt64) * q1)))])) _
    refine XS.bipush X0.here hx rfl (hb hby d17_33) ?_
    show Steps p.tables e below (s₁.setTop (mkF m 35 #[.val (.long q0), .second, .val (.long q1), .second, .val (.long ((((q0.toUInt64 >>> ((1 : Int32) &&& 0x3f).toInt64.toUInt64).toInt64) / q1) <<< ((1 : Int32) &&& 0x3f).toInt64)), .second, .val (.long (q0 - (((((q0.toUInt64 >>> ((1 : Int32) &&& 0x3f).toInt64.toUInt64).toInt64) / q1) <<< ((1 : Int32) &&& 0x3f).toInt64) * q1))), .second] [(.int (63 : Int32)), (.long (((q0 - (((((q0.toUInt64 >>> ((1 : Int32) &&& 0x3f).toInt64.toUInt64).toInt64) / q1) <<< ((1 : Int32) &&& 0x3f).toInt64) * q1)) - q1) ^^^ (-1 : Int64))), (.long (q0 - (((((q0.toUInt64 >>> ((1 : Int32) &&& 0x3f).toInt64.toUInt64).toInt64) / q1) <<< ((1 : Int32) &&& 0x3f).toInt64) * q1)))])) _
    refine XS.lshr X0.here hx rfl (hb hby d17_35) rfl ?_
    show Steps p.tables e below (s₁.setTop (mkF m 36 #[.val (.long q0), .second, .val (.long q1), .second, .val (.long ((((q0.toUInt64 >>> ((1 : Int32) &&& 0x3f).toInt64.toUInt64).toInt64) / q1) <<< ((1 : Int32) &&& 0x3f).toInt64)), .second, .val (.long (q0 - (((((q0.toUInt64 >>> ((1 : Int32) &&& 0x3f).toInt64.toUInt64).toInt64) / q1) <<< ((1 : Int32) &&& 0x3f).toInt64) * q1))), .second] [(.long ((((q0 - (((((q0.toUInt64 >>> ((1 : Int32) &&& 0x3f).toInt64.toUInt64).toInt64) / q1) <<< ((1 : Int32) &&& 0x3f).toInt64) * q1)) - q1) ^^^ (-1 : Int64)) >>> ((63 : Int32) &&& 0x3f).toInt64)), (.long (q0 - (((((q0.toUInt64 >>> ((1 : Int32) &&& 0x3f).toInt64.toUInt64).toInt64) / q1) <<< ((1 : Int32) &&& 0x3f).toInt64) * q1)))])) _
    refine XS.lloadN X0.here hx rfl (hb hby d17_36) rfl ?_
    show Steps p.tables e below (s₁.setTop (mkF m 37 #[.val (.long q0), .second, .val (.long q1), .second, .val (.long ((((q0.toUInt64 >>> ((1 : Int32) &&& 0x3f).toInt64.toUInt64).toInt64) / q1) <<< ((1 : Int32) &&& 0x3f).toInt64)), .second, .val (.long (q0 - (((((q0.toUInt64 >>> ((1 : Int32) &&& 0x3f).toInt64.toUInt64).toInt64) / q1) <<< ((1 : Int32) &&& 0x3f).toInt64) * q1))), .second] [(.long q1), (.long ((((q0 - (((((q0.toUInt64 >>> ((1 : Int32) &&& 0x3f).toInt64.toUInt64).toInt64) / q1) <<< ((1 : Int32) &&& 0x3f).toInt64) * q1)) - q1) ^^^ (-1 : Int64)) >>> ((63 : Int32) &&& 0x3f).toInt64)), (.long (q0 - (((((q0.toUInt64 >>> ((1 : Int32) &&& 0x3f).toInt64.toUInt64).toInt64) / q1) <<< ((1 : Int32) &&& 0x3f).toInt64) * q1)))])) _
    refine XS.land X0.here hx rfl (hb hby d17_37) rfl ?_
    show Steps p.tables e below (s₁.setTop (mkF m 38 #[.val (.long q0), .second, .val (.long q1), .second, .val (.long ((((q0.toUInt64 >>> ((1 : Int32) &&& 0x3f).toInt64.toUInt64).toInt64) / q1) <<< ((1 : Int32) &&& 0x3f).toInt64)), .second, .val (.long (q0 - (((((q0.toUInt64 >>> ((1 : Int32) &&& 0x3f).toInt64.toUInt64).toInt64) / q1) <<< ((1 : Int32) &&& 0x3f).toInt64) * q1))), .second] [(.long (((((q0 - (((((q0.toUInt64 >>> ((1 : Int32) &&& 0x3f).toInt64.toUInt64).toInt64) / q1) <<< ((1 : Int32) &&& 0x3f).toInt64) * q1)) - q1) ^^^ (-1 : Int64)) >>> ((63 : Int32) &&& 0x3f).toInt64) &&& q1)), (.long (q0 - (((((q0.toUInt64 >>> ((1 : Int32) &&& 0x3f).toInt64.toUInt64).toInt64) / q1) <<< ((1 : Int32) &&& 0x3f).toInt64) * q1)))])) _
    refine XS.lsub X0.here hx rfl (hb hby d17_38) rfl ?_
    show Steps p.tables e below (s₁.setTop (mkF m 39 #[.val (.long q0), .second, .val (.long q1), .second, .val (.long ((((q0.toUInt64 >>> ((1 : Int32) &&& 0x3f).toInt64.toUInt64).toInt64) / q1) <<< ((1 : Int32) &&& 0x3f).toInt64)), .second, .val (.long (q0 - (((((q0.toUInt64 >>> ((1 : Int32) &&& 0x3f).toInt64.toUInt64).toInt64) / q1) <<< ((1 : Int32) &&& 0x3f).toInt64) * q1))), .second] [(.long ((q0 - (((((q0.toUInt64 >>> ((1 : Int32) &&& 0x3f).toInt64.toUInt64).toInt64) / q1) <<< ((1 : Int32) &&& 0x3f).toInt64) * q1)) - (((((q0 - (((((q0.toUInt64 >>> ((1 : Int32) &&& 0x3f).toInt64.toUInt64).toInt64) / q1) <<< ((1 : Int32) &&& 0x3f).toInt64) * q1)) - q1) ^^^ (-1 : Int64)) >>> ((63 : Int32) &&& 0x3f).toInt64) &&& q1)))])) _
    exact retOut X0 hx Bd.returns rfl (by right; left; exact ⟨rfl, rfl, _, rfl⟩) (hb hby d17_39) hrT
  · show Q17 Z q0 q1 h0 n0 _ s₁.heap _
    rw [e0]
    exact ⟨(by show some (Value.long ((q0 - (((((q0.toUInt64 >>> ((1 : Int32) &&& 0x3f).toInt64.toUInt64).toInt64) / q1) <<< ((1 : Int32) &&& 0x3f).toInt64) * q1)) - (((((q0 - (((((q0.toUInt64 >>> ((1 : Int32) &&& 0x3f).toInt64.toUInt64).toInt64) / q1) <<< ((1 : Int32) &&& 0x3f).toInt64) * q1)) - q1) ^^^ (-1 : Int64)) >>> ((63 : Int32) &&& 0x3f).toInt64) &&& q1))) = some (.long 0); rw [hz, own_z1, own_zd, own_zs, Int64.zero_mul, Int64.sub_self, own_not hd, own_sa (by rw [own_dm hd]; omega), own_and0']; rfl), N0, rfl⟩
theorem d7_0 : decode prog_33_method_9_code 0 = .ok (.lload_n 1, 1) := by decide +kernel
theorem d7_1 : decode prog_33_method_9_code 1 = .ok (.aload_n 0, 1) := by decide +kernel
theorem d7_2 : decode prog_33_method_9_code 2 = .ok (.getfield 30, 3) := by decide +kernel
theorem d7_5 : decode prog_33_method_9_code 5 = .ok (.lsub, 1) := by decide +kernel
theorem d7_6 : decode prog_33_method_9_code 6 = .ok (.aload_n 0, 1) := by decide +kernel
theorem d7_7 : decode prog_33_method_9_code 7 = .ok (.getfield 16, 3) := by decide +kernel
theorem pd__JJ_J : parseMethodDescriptor "(JJ)J" = some ⟨[.long, .long], some .long⟩ := by decide +kernel
theorem d7_10 : decode prog_33_method_9_code 10 = .ok (.invokestatic 74, 3) := by decide +kernel
theorem d7_13 : decode prog_33_method_9_code 13 = .ok (.lreturn, 1) := by decide +kernel
theorem ef7 (m : MethodId) (x0 : Addr) (x1 : Int64) : entryFrame m #[(.ref x0), (.long x1)] 3 = mkF m 0 #[.val (.ref x0), .val (.long x1), .second] [] := by first | (simp [entryFrame, mkF, argsToLocals, Value.category]; done) | rfl
def Q7 (Z : State) (r0 : Addr) (q1 : Int64) (up : Int64) (h0 : Heap) (n0 : Nat) (v : Option Value) (h : Heap) (L : List Loc) : Prop := v = some (.long (0 : Int64)) ∧ Fr n0 L ∧ h = h0
set_option maxRecDepth 65536 in
set_option maxHeartbeats 40000000 in
theorem rm7 (l : Launch) (Z : State) (a0 : Array Value) (hw : ∀ d ∈ tables_1, d.before a0 Z = true) (ws : List Jvm.Cond) (r0 : Addr) (q1 : Int64) (up : Int64) (h0 : Heap) (n0 : Nat) (Z0 : n0 ≤ h0.size) (F0 : Fld Z h0 r0 "com/example/even_bucket/evenbucket/IntervalBucket" "periodMillis" "J" (.long up)) (F1 : Fld Z h0 r0 "com/example/even_bucket/evenbucket/IntervalBucket" "origin" "J" (.long q1)) (hd : 1 ≤ up.toInt) :
    MetFree l (⟨"com/example/even_bucket/evenbucket/IntervalBucket", "periodsTo", "(J)J"⟩ : MethodName) (head1 (Jvm.Cond.code (⟨"com/example/even_bucket/evenbucket/IntervalBucket", "periodsTo", "(J)J"⟩ : MethodName) prog_33_method_9_code 3 (some .long) :: ws) ({ frames := 1, cells := 0, slots := 0, locals := 19 } : Room)) (fun a U => a = #[(.ref r0), (.long q1)] ∧ Z.Warmed39 U.vm ∧ U.heap = h0) (fun _ _ _ _ _ => True) (fun _ U o U' => ∃ v L, o = .returned v ∧ Q7 Z r0 q1 up h0 n0 v U'.heap L ∧ FrameEnd U o U' L ({ frames := 1, cells := 0, slots := 0, locals := 19 } : Room).cells ({ frames := 1, cells := 0, slots := 0, locals := 19 } : Room).slots) := by
  refine MetFree.of_bodySF (plainFor_of_name pn_IntervalBucket) hisR ?_
  intro p e s m args below meth c s₁ Bd hml0 hP hK
  obtain ⟨rfl, hZ, hh⟩ := hP
  have hx := Bd.exec
  have hby := Bd.bytes
  have hml : c.maxLocals = 3 := hml0
  have hown : s.vm.findClass "com/example/even_bucket/evenbucket/IntervalBucket" = some m.cls := findClass_of_methodNamed Bd.named
  have hnm := (name_of_methodNamed Bd.named Bd.method).1
  have X0 : Stand p l e ({ frames := 1, cells := 0, slots := 0, locals := 19 } : Room) s m #[(.ref r0), (.long q1)] below meth c s₁ [] 0 0 := Stand.of_body Bd
  have e0 : s₁.heap = h0 := by rw [← hh, Bd.state]; rfl
  have N0 := Fr.nil n0
  have pre0 : ∀ t, Steps p.tables e below (s₁.setTop (mkF m 0 #[.val (.ref r0), .val (.long q1), .second] [])) t → Steps p.tables e below (s₁.setTop (entryFrame m #[(.ref r0), (.long q1)] 3)) t := fun t k => castTop (ef7 m r0 q1) k
  obtain ⟨T34, X34, e34, st34⟩ := getF X0 hx hZ hown (host := "") (Or.inl (hw _ (List.mem_of_getElem? (i := 31) rfl))) Via.refl e0 F1 (g := (mkF m 2 #[.val (.ref r0), .val (.long q1), .second] [(.ref r0), (.long q1)])) rfl rfl (hb hby d7_2)
  obtain ⟨T35, X35, e35, st35⟩ := getF X34 hx hZ hown (host := "") (Or.inl (hw _ (List.mem_of_getElem? (i := 22) rfl))) Via.refl e34 F0 (g := (mkF m 7 #[.val (.ref r0), .val (.long q1), .second] [(.ref r0), (.long (q1 - q1))])) rfl rfl (hb hby d7_7)
  obtain ⟨_, _, ⟨T36, L36, k36, n36⟩, -, X36, ⟨Lc36, hQ36, l36, y36, z36⟩, st36⟩ := Jvm.LawKit.callS X35 hx (y := (⟨"java/lang/Long", "divideUnsigned", "(JJ)J"⟩ : MethodName)) hown (mvT hZ (hw _ (List.mem_of_getElem? (i := 48) rfl))) (mvT hZ (hw _ (List.mem_of_getElem? (i := 49) rfl))) (mvT hZ (hw _ (List.mem_of_getElem? (i := 50) rfl))) (mvT hZ (hw _ (List.mem_of_getElem? (i := 51) rfl))) (by decide) (backOf (W := 0) (rm8 l Z a0 hw [] (q1 - q1) up h0 n0 Z0 (Int64.sub_self q1) hd) hZ (hw _ (List.mem_of_getElem? (i := 51) rfl)) (hw _ (List.mem_of_getElem? (i := 50) rfl)) (by decide) (by decide)) (g := (mkF m 10 #[.val (.ref r0), .val (.long q1), .second] [(.long up), (.long (q1 - q1))])) rfl (by rw [hml]; rfl) (argsL := [(.long (q1 - q1)), (.long up)]) (rest := []) (lenOf pd__JJ_J rfl) rfl (by show 2 * 0 + _ ≤ _; exact Nat.le_of_eq rfl) (hb hby d7_10) (fun _ _ => ⟨rfl, e35, (by decide : 0 + 0 ≤ _), (by decide : 0 + 0 ≤ _)⟩)
  dsimp only [Pt.U, Pt.locs, Pt.cells, Pt.slots] at X36 l36 y36 z36 st36 hQ36
  subst l36 y36 z36
  obtain ⟨rfl, Nq36, e36⟩ := hQ36
  have N36 := Fr.app N0 Nq36
  obtain ⟨fs, hrT, hrunT, hendT, hWT, hsameT⟩ := X36.leave (hlocks := BodyLoose.notSynchronized Bd) (v := some (.long (0 : Int64))) (fun h => by rw [Bd.returns] at h; cases h)
  refine ⟨_, _, pre0 _ ?_, hrunT, hendT, _, _, rfl, ?_, ⟨_, rfl⟩, hWT, hsameT.mono (by decide) (by decide)⟩
  · show Steps p.tables e below (s₁.setTop (mkF m 0 #[.val (.ref r0), .val (.long q1), .second] [])) _
    refine XS.lloadN X0.here hx rfl (hb hby d7_0) rfl ?_
    show Steps p.tables e below (s₁.setTop (mkF m 1 #[.val (.ref r0), .val (.long q1), .second] [(.long q1)])) _
    refine XS.aloadN X0.here hx rfl (hb hby d7_1) rfl rfl ?_
    show Steps p.tables e below (s₁.setTop (mkF m 2 #[.val (.ref r0), .val (.long q1), .second] [(.ref r0), (.long q1)])) _
    refine st34 _ ?_
    show Steps p.tables e below (T34.setTop (mkF m 5 #[.val (.ref r0), .val (.long q1), .second] [(.long q1), (.long q1)])) _
    refine XS.lsub X34.here hx rfl (hb hby d7_5) rfl ?_
    show Steps p.tables e below (T34.setTop (mkF m 6 #[.val (.ref r0), .val (.long q1), .second] [(.long (q1 - q1))])) _
    refine XS.aloadN X34.here hx rfl (hb hby d7_6) rfl rfl ?_
    show Steps p.tables e below (T34.setTop (mkF m 7 #[.val (.ref r0), .val (.long q1), .second] [(.ref r0), (.long (q1 - q1))])) _
    refine st35 _ ?_
    show Steps p.tables e below (T35.setTop (mkF m 10 #[.val (.ref r0), .val (.long q1), .second] [(.long up), (.long (q1 - q1))])) _
    refine st36 _ ?_
    show Steps p.tables e below (T36.setTop (mkF m 13 #[.val (.ref r0), .val (.long q1), .second] [(.long (0 : Int64))])) _
    exact retOut X36 hx Bd.returns rfl (by right; left; exact ⟨rfl, rfl, _, rfl⟩) (hb hby d7_13) hrT
  · show Q7 Z r0 q1 up h0 n0 _ T36.heap _
    rw [e36]
    exact ⟨rfl, N36, rfl⟩
theorem own_ne {y : Int32} (h : 1 ≤ y.toInt) : y ≠ 0 := fun e => by rw [e] at h; exact absurd h (by decide)
theorem own_neL {y : Int32} (h : 1 ≤ y.toInt) : (y.toInt64) ≠ 0 := fun e => by have := congrArg Int64.toInt e; rw [Jvm.Kit.i64_of_i32, show (0 : Int64).toInt = 0 from rfl] at this; omega
theorem d6_0 : decode prog_33_method_8_code 0 = .ok (.aload_n 0, 1) := by decide +kernel
theorem d6_1 : decode prog_33_method_8_code 1 = .ok (.lload_n 1, 1) := by decide +kernel
theorem pd__J_J : parseMethodDescriptor "(J)J" = some ⟨[.long], some .long⟩ := by decide +kernel
theorem d6_2 : decode prog_33_method_8_code 2 = .ok (.invokevirtual 67, 3) := by decide +kernel
theorem d6_5 : decode prog_33_method_8_code 5 = .ok (.aload_n 0, 1) := by decide +kernel
theorem d6_6 : decode prog_33_method_8_code 6 = .ok (.aload_n 0, 1) := by decide +kernel
theorem d6_7 : decode prog_33_method_8_code 7 = .ok (.getfield 33, 3) := by decide +kernel
theorem d6_10 : decode prog_33_method_8_code 10 = .ok (.invokevirtual 67, 3) := by decide +kernel
theorem d6_13 : decode prog_33_method_8_code 13 = .ok (.lsub, 1) := by decide +kernel
theorem d6_14 : decode prog_33_method_8_code 14 = .ok (.lstore_n 3, 1) := by decide +kernel
theorem d6_15 : decode prog_33_method_8_code 15 = .ok (.aload_n 0, 1) := by decide +kernel
theorem d6_16 : decode prog_33_method_8_code 16 = .ok (.getfield 7, 3) := by decide +kernel
theorem d6_19 : decode prog_33_method_8_code 19 = .ok (.i2l, 1) := by decide +kernel
theorem d6_20 : decode prog_33_method_8_code 20 = .ok (.aload_n 0, 1) := by decide +kernel
theorem d6_21 : decode prog_33_method_8_code 21 = .ok (.getfield 36, 3) := by decide +kernel
theorem d6_24 : decode prog_33_method_8_code 24 = .ok (.lsub, 1) := by decide +kernel
theorem d6_25 : decode prog_33_method_8_code 25 = .ok (.aload_n 0, 1) := by decide +kernel
theorem d6_26 : decode prog_33_method_8_code 26 = .ok (.getfield 13, 3) := by decide +kernel
theorem d6_29 : decode prog_33_method_8_code 29 = .ok (.i2l, 1) := by decide +kernel
theorem d6_30 : decode prog_33_method_8_code 30 = .ok (.ladd, 1) := by decide +kernel
theorem d6_31 : decode prog_33_method_8_code 31 = .ok (.lconst 1, 1) := by decide +kernel
theorem d6_32 : decode prog_33_method_8_code 32 = .ok (.lsub, 1) := by decide +kernel
theorem d6_33 : decode prog_33_method_8_code 33 = .ok (.aload_n 0, 1) := by decide +kernel
theorem d6_34 : decode prog_33_method_8_code 34 = .ok (.getfield 13, 3) := by decide +kernel
theorem d6_37 : decode prog_33_method_8_code 37 = .ok (.i2l, 1) := by decide +kernel
theorem d6_38 : decode prog_33_method_8_code 38 = .ok (.ldiv, 1) := by decide +kernel
theorem d6_39 : decode prog_33_method_8_code 39 = .ok (.lstore 5, 2) := by decide +kernel
theorem d6_41 : decode prog_33_method_8_code 41 = .ok (.lload_n 3, 1) := by decide +kernel
theorem d6_42 : decode prog_33_method_8_code 42 = .ok (.lload 5, 2) := by decide +kernel
theorem d6_44 : decode prog_33_method_8_code 44 = .ok (.invokestatic 70, 3) := by decide +kernel
theorem d6_47 : decode prog_33_method_8_code 47 = .ok (.ifCond .lt 9, 3) := by decide +kernel
theorem d6_56 : decode prog_33_method_8_code 56 = .ok (.aload_n 0, 1) := by decide +kernel
theorem d6_57 : decode prog_33_method_8_code 57 = .ok (.getfield 36, 3) := by decide +kernel
theorem d6_60 : decode prog_33_method_8_code 60 = .ok (.lload_n 3, 1) := by decide +kernel
theorem d6_61 : decode prog_33_method_8_code 61 = .ok (.aload_n 0, 1) := by decide +kernel
theorem d6_62 : decode prog_33_method_8_code 62 = .ok (.getfield 13, 3) := by decide +kernel
theorem d6_65 : decode prog_33_method_8_code 65 = .ok (.i2l, 1) := by decide +kernel
theorem d6_66 : decode prog_33_method_8_code 66 = .ok (.lmul, 1) := by decide +kernel
theorem d6_67 : decode prog_33_method_8_code 67 = .ok (.ladd, 1) := by decide +kernel
theorem d6_68 : decode prog_33_method_8_code 68 = .ok (.lreturn, 1) := by decide +kernel
theorem d6_50 : decode prog_33_method_8_code 50 = .ok (.aload_n 0, 1) := by decide +kernel
theorem d6_51 : decode prog_33_method_8_code 51 = .ok (.getfield 7, 3) := by decide +kernel
theorem d6_54 : decode prog_33_method_8_code 54 = .ok (.i2l, 1) := by decide +kernel
theorem d6_55 : decode prog_33_method_8_code 55 = .ok (.lreturn, 1) := by decide +kernel
def f_pa (uc : Int32) (ux : Int64) (ur : Int32) : Int64 := (if (f_cmp (((0 : Int64) - (0 : Int64)) + (-9223372036854775808 : Int64)) ((((((uc.toInt64) - ux) + (ur.toInt64)) - (1 : Int64)) / (ur.toInt64)) + (-9223372036854775808 : Int64))) < 0 then (ux + (((0 : Int64) - (0 : Int64)) * (ur.toInt64))) else (uc.toInt64))
theorem ef6 (m : MethodId) (x0 : Addr) (x1 : Int64) : entryFrame m #[(.ref x0), (.long x1)] 7 = mkF m 0 #[.val (.ref x0), .val (.long x1), .second, .unset, .unset, .unset, .unset] [] := by first | (simp [entryFrame, mkF, argsToLocals, Value.category]; done) | rfl
def Q6 (Z : State) (r0 : Addr) (q1 : Int64) (uc : Int32) (ur : Int32) (up : Int64) (ux : Int64) (h0 : Heap) (n0 : Nat) (v : Option Value) (h : Heap) (L : List Loc) : Prop := v = some (.long (f_pa uc ux ur)) ∧ Fr n0 L ∧ h = h0
set_option maxRecDepth 65536 in
set_option maxHeartbeats 40000000 in
theorem rm6 (l : Launch) (Z : State) (a0 : Array Value) (hw : ∀ d ∈ tables_1, d.before a0 Z = true) (ws : List Jvm.Cond) (r0 : Addr) (q1 : Int64) (uc : Int32) (ur : Int32) (up : Int64) (ux : Int64) (h0 : Heap) (n0 : Nat) (Z0 : n0 ≤ h0.size) (F0 : Fld Z h0 r0 "com/example/even_bucket/evenbucket/IntervalBucket" "capacity" "I" (.int uc)) (F1 : Fld Z h0 r0 "com/example/even_bucket/evenbucket/IntervalBucket" "refill" "I" (.int ur)) (F2 : Fld Z h0 r0 "com/example/even_bucket/evenbucket/IntervalBucket" "periodMillis" "J" (.long up)) (F3 : Fld Z h0 r0 "com/example/even_bucket/evenbucket/IntervalBucket" "permits" "J" (.long ux)) (F4 : Fld Z h0 r0 "com/example/even_bucket/evenbucket/IntervalBucket" "origin" "J" (.long q1)) (F5 : Fld Z h0 r0 "com/example/even_bucket/evenbucket/IntervalBucket" "newest" "J" (.long q1)) (E1 : Exa Z h0 r0 "com/example/even_bucket/evenbucket/IntervalBucket") (hd : 1 ≤ up.toInt) (hr : 1 ≤ ur.toInt) :
    MetFree l (⟨"com/example/even_bucket/evenbucket/IntervalBucket", "permitsAt", "(J)J"⟩ : MethodName) (head1 (Jvm.Cond.code (⟨"com/example/even_bucket/evenbucket/IntervalBucket", "permitsAt", "(J)J"⟩ : MethodName) prog_33_method_8_code 7 (some .long) :: ws) ({ frames := 2, cells := 0, slots := 0, locals := 35 } : Room)) (fun a U => a = #[(.ref r0), (.long q1)] ∧ Z.Warmed39 U.vm ∧ U.heap = h0) (fun _ _ _ _ _ => True) (fun _ U o U' => ∃ v L, o = .returned v ∧ Q6 Z r0 q1 uc ur up ux h0 n0 v U'.heap L ∧ FrameEnd U o U' L ({ frames := 2, cells := 0, slots := 0, locals := 35 } : Room).cells ({ frames := 2, cells := 0, slots := 0, locals := 35 } : Room).slots) := by
  refine MetFree.of_bodySF (plainFor_of_name pn_IntervalBucket) hisR ?_
  intro p e s m args below meth c s₁ Bd hml0 hP hK
  obtain ⟨rfl, hZ, hh⟩ := hP
  have hx := Bd.exec
  have hby := Bd.bytes
  have hml : c.maxLocals = 7 := hml0
  have hown : s.vm.findClass "com/example/even_bucket/evenbucket/IntervalBucket" = some m.cls := findClass_of_methodNamed Bd.named
  have hnm := (name_of_methodNamed Bd.named Bd.method).1
  have X0 : Stand p l e ({ frames := 2, cells := 0, slots := 0, locals := 35 } : Room) s m #[(.ref r0), (.long q1)] below meth c s₁ [] 0 0 := Stand.of_body Bd
  have e0 : s₁.heap = h0 := by rw [← hh, Bd.state]; rfl
  have N0 := Fr.nil n0
  have pre0 : ∀ t, Steps p.tables e below (s₁.setTop (mkF m 0 #[.val (.ref r0), .val (.long q1), .second, .unset, .unset, .unset, .unset] [])) t → Steps p.tables e below (s₁.setTop (entryFrame m #[(.ref r0), (.long q1)] 7)) t := fun t k => castTop (ef6 m r0 q1) k
  obtain ⟨cq37, q37, q37'⟩ := E1.cell
  obtain ⟨_, _, ⟨T37, L37, k37, n37⟩, -, X37, ⟨Lc37, hQ37, l37, y37, z37⟩, st37⟩ := X0.privateBack hx (y := (⟨"com/example/even_bucket/evenbucket/IntervalBucket", "periodsTo", "(J)J"⟩ : MethodName)) hown (mvT hZ (hw _ (List.mem_of_getElem? (i := 44) rfl))) (mvT hZ (hw _ (List.mem_of_getElem? (i := 45) rfl))) (Jvm.Kit.selects_private (by decide) (mvT hZ (hw _ (List.mem_of_getElem? (i := 10) rfl))) (mvP hZ (hw _ (List.mem_of_getElem? (i := 46) rfl))) (mvT hZ (hw _ (List.mem_of_getElem? (i := 45) rfl)))) (Cond.privateMethod_at (mvP hZ (hw _ (List.mem_of_getElem? (i := 46) rfl)) (args := #[]))) (mvT hZ (hw _ (List.mem_of_getElem? (i := 47) rfl))) (by decide) (backOf (W := 0) (rm7 l Z a0 hw [] r0 q1 up h0 n0 Z0 F2 F4 hd) hZ (hw _ (List.mem_of_getElem? (i := 47) rfl)) (hw _ (List.mem_of_getElem? (i := 11) rfl)) (by decide) (by decide)) (g := (mkF m 2 #[.val (.ref r0), .val (.long q1), .second, .unset, .unset, .unset, .unset] [(.long q1), (.ref r0)])) rfl (by rw [hml]; rfl) (Steps.refl _) (a := r0) (by rw [e0]; exact q37) q37' (argsL := [(.long q1)]) (rest := []) (lenOf pd__J_J rfl) rfl (by show 2 * 0 + _ ≤ _; exact Nat.le_of_eq rfl) (hb hby d6_2) (fun _ _ => ⟨rfl, e0, (by decide : 0 + 0 ≤ _), (by decide : 0 + 0 ≤ _)⟩)
  dsimp only [Pt.U, Pt.locs, Pt.cells, Pt.slots] at X37 l37 y37 z37 st37 hQ37
  subst l37 y37 z37
  obtain ⟨rfl, Nq37, e37⟩ := hQ37
  have N37 := Fr.app N0 Nq37
  obtain ⟨T38, X38, e38, st38⟩ := getF X37 hx hZ hown (host := "") (Or.inl (hw _ (List.mem_of_getElem? (i := 33) rfl))) Via.refl e37 F5 (g := (mkF m 7 #[.val (.ref r0), .val (.long q1), .second, .unset, .unset, .unset, .unset] [(.ref r0), (.ref r0), (.long (0 : Int64))])) rfl rfl (hb hby d6_7)
  obtain ⟨cq39, q39, q39'⟩ := E1.cell
  obtain ⟨_, _, ⟨T39, L39, k39, n39⟩, -, X39, ⟨Lc39, hQ39, l39, y39, z39⟩, st39⟩ := X38.privateBack hx (y := (⟨"com/example/even_bucket/evenbucket/IntervalBucket", "periodsTo", "(J)J"⟩ : MethodName)) hown (mvT hZ (hw _ (List.mem_of_getElem? (i := 44) rfl))) (mvT hZ (hw _ (List.mem_of_getElem? (i := 45) rfl))) (Jvm.Kit.selects_private (by decide) (mvT hZ (hw _ (List.mem_of_getElem? (i := 10) rfl))) (mvP hZ (hw _ (List.mem_of_getElem? (i := 46) rfl))) (mvT hZ (hw _ (List.mem_of_getElem? (i := 45) rfl)))) (Cond.privateMethod_at (mvP hZ (hw _ (List.mem_of_getElem? (i := 46) rfl)) (args := #[]))) (mvT hZ (hw _ (List.mem_of_getElem? (i := 47) rfl))) (by decide) (backOf (W := 2) (rm7 l Z a0 hw [] r0 q1 up h0 n0 Z0 F2 F4 hd) hZ (hw _ (List.mem_of_getElem? (i := 47) rfl)) (hw _ (List.mem_of_getElem? (i := 11) rfl)) (by decide) (by decide)) (g := (mkF m 10 #[.val (.ref r0), .val (.long q1), .second, .unset, .unset, .unset, .unset] [(.long q1), (.ref r0), (.long (0 : Int64))])) rfl (by rw [hml]; rfl) (Steps.refl _) (a := r0) (by rw [e38]; exact q39) q39' (argsL := [(.long q1)]) (rest := [(.long (0 : Int64))]) (lenOf pd__J_J rfl) rfl (by show 2 * 0 + _ ≤ _; exact Nat.le_of_eq rfl) (hb hby d6_10) (fun _ _ => ⟨rfl, e38, (by decide : 0 + 0 ≤ _), (by decide : 0 + 0 ≤ _)⟩)
  dsimp only [Pt.U, Pt.locs, Pt.cells, Pt.slots] at X39 l39 y39 z39 st39 hQ39
  subst l39 y39 z39
  obtain ⟨rfl, Nq39, e39⟩ := hQ39
  have N39 := Fr.app N37 Nq39
  obtain ⟨T40, X40, e40, st40⟩ := getF X39 hx hZ hown (host := "") (Or.inl (hw _ (List.mem_of_getElem? (i := 18) rfl))) Via.refl e39 F0 (g := (mkF m 16 #[.val (.ref r0), .val (.long q1), .second, .val (.long ((0 : Int64) - (0 : Int64))), .second, .unset, .unset] [(.ref r0)])) rfl rfl (hb hby d6_16)
  obtain ⟨T41, X41, e41, st41⟩ := getF X40 hx hZ hown (host := "") (Or.inl (hw _ (List.mem_of_getElem? (i := 35) rfl))) Via.refl e40 F3 (g := (mkF m 21 #[.val (.ref r0), .val (.long q1), .second, .val (.long ((0 : Int64) - (0 : Int64))), .second, .unset, .unset] [(.ref r0), (.long (uc.toInt64))])) rfl rfl (hb hby d6_21)
  obtain ⟨T42, X42, e42, st42⟩ := getF X41 hx hZ hown (host := "") (Or.inl (hw _ (List.mem_of_getElem? (i := 20) rfl))) Via.refl e41 F1 (g := (mkF m 26 #[.val (.ref r0), .val (.long q1), .second, .val (.long ((0 : Int64) - (0 : Int64))), .second, .unset, .unset] [(.ref r0), (.long ((uc.toInt64) - ux))])) rfl rfl (hb hby d6_26)
  obtain ⟨T43, X43, e43, st43⟩ := getF X42 hx hZ hown (host := "") (Or.inl (hw _ (List.mem_of_getElem? (i := 20) rfl))) Via.refl e42 F1 (g := (mkF m 34 #[.val (.ref r0), .val (.long q1), .second, .val (.long ((0 : Int64) - (0 : Int64))), .second, .unset, .unset] [(.ref r0), (.long ((((uc.toInt64) - ux) + (ur.toInt64)) - (1 : Int64)))])) rfl rfl (hb hby d6_34)
  obtain ⟨_, _, ⟨T44, L44, k44, n44⟩, -, X44, ⟨Lc44, hQ44, l44, y44, z44⟩, st44⟩ := Jvm.LawKit.callS X43 hx (y := (⟨"java/lang/Long", "compareUnsigned", "(JJ)I"⟩ : MethodName)) hown (mvT hZ (hw _ (List.mem_of_getElem? (i := 53) rfl))) (mvT hZ (hw _ (List.mem_of_getElem? (i := 54) rfl))) (mvT hZ (hw _ (List.mem_of_getElem? (i := 50) rfl))) (mvT hZ (hw _ (List.mem_of_getElem? (i := 55) rfl))) (by decide) (backOf (W := 0) (rm9 l Z a0 hw [] ((0 : Int64) - (0 : Int64)) (((((uc.toInt64) - ux) + (ur.toInt64)) - (1 : Int64)) / (ur.toInt64)) h0 n0 Z0 ) hZ (hw _ (List.mem_of_getElem? (i := 55) rfl)) (hw _ (List.mem_of_getElem? (i := 50) rfl)) (by decide) (by decide)) (g := (mkF m 44 #[.val (.ref r0), .val (.long q1), .second, .val (.long ((0 : Int64) - (0 : Int64))), .second, .val (.long (((((uc.toInt64) - ux) + (ur.toInt64)) - (1 : Int64)) / (ur.toInt64))), .second] [(.long (((((uc.toInt64) - ux) + (ur.toInt64)) - (1 : Int64)) / (ur.toInt64))), (.long ((0 : Int64) - (0 : Int64)))])) rfl (by rw [hml]; rfl) (argsL := [(.long ((0 : Int64) - (0 : Int64))), (.long (((((uc.toInt64) - ux) + (ur.toInt64)) - (1 : Int64)) / (ur.toInt64)))]) (rest := []) (lenOf pd__JJ_I rfl) rfl (by show 2 * 0 + _ ≤ _; exact Nat.le_of_eq rfl) (hb hby d6_44) (fun _ _ => ⟨rfl, e43, (by decide : 0 + 0 ≤ _), (by decide : 0 + 0 ≤ _)⟩)
  dsimp only [Pt.U, Pt.locs, Pt.cells, Pt.slots] at X44 l44 y44 z44 st44 hQ44
  subst l44 y44 z44
  obtain ⟨rfl, Nq44, e44⟩ := hQ44
  have N44 := Fr.app N39 Nq44
  have S45 : ∀ t, Steps p.tables e below (T44.setTop (mkF m 47 #[.val (.ref r0), .val (.long q1), .second, .val (.long ((0 : Int64) - (0 : Int64))), .second, .val (.long (((((uc.toInt64) - ux) + (ur.toInt64)) - (1 : Int64)) / (ur.toInt64))), .second] [(.int (f_cmp (((0 : Int64) - (0 : Int64)) + (-9223372036854775808 : Int64)) ((((((uc.toInt64) - ux) + (ur.toInt64)) - (1 : Int64)) / (ur.toInt64)) + (-9223372036854775808 : Int64))))])) t → Steps p.tables e below (s₁.setTop (entryFrame m #[(.ref r0), (.long q1)] 7)) t := by
    intro t kt
    refine pre0 _ ?_
    show Steps p.tables e below (s₁.setTop (mkF m 0 #[.val (.ref r0), .val (.long q1), .second, .unset, .unset, .unset, .unset] [])) _
    refine XS.aloadN X0.here hx rfl (hb hby d6_0) rfl rfl ?_
    show Steps p.tables e below (s₁.setTop (mkF m 1 #[.val (.ref r0), .val (.long q1), .second, .unset, .unset, .unset, .unset] [(.ref r0)])) _
    refine XS.lloadN X0.here hx rfl (hb hby d6_1) rfl ?_
    show Steps p.tables e below (s₁.setTop (mkF m 2 #[.val (.ref r0), .val (.long q1), .second, .unset, .unset, .unset, .unset] [(.long q1), (.ref r0)])) _
    refine st37.trans ?_
    show Steps p.tables e below (T37.setTop (mkF m 5 #[.val (.ref r0), .val (.long q1), .second, .unset, .unset, .unset, .unset] [(.long (0 : Int64))])) _
    refine XS.aloadN X37.here hx rfl (hb hby d6_5) rfl rfl ?_
    show Steps p.tables e below (T37.setTop (mkF m 6 #[.val (.ref r0), .val (.long q1), .second, .unset, .unset, .unset, .unset] [(.ref r0), (.long (0 : Int64))])) _
    refine XS.aloadN X37.here hx rfl (hb hby d6_6) rfl rfl ?_
    show Steps p.tables e below (T37.setTop (mkF m 7 #[.val (.ref r0), .val (.long q1), .second, .unset, .unset, .unset, .unset] [(.ref r0), (.ref r0), (.long (0 : Int64))])) _
    refine st38 _ ?_
    show Steps p.tables e below (T38.setTop (mkF m 10 #[.val (.ref r0), .val (.long q1), .second, .unset, .unset, .unset, .unset] [(.long q1), (.ref r0), (.long (0 : Int64))])) _
    refine st39.trans ?_
    show Steps p.tables e below (T39.setTop (mkF m 13 #[.val (.ref r0), .val (.long q1), .second, .unset, .unset, .unset, .unset] [(.long (0 : Int64)), (.long (0 : Int64))])) _
    refine XS.lsub X39.here hx rfl (hb hby d6_13) rfl ?_
    show Steps p.tables e below (T39.setTop (mkF m 14 #[.val (.ref r0), .val (.long q1), .second, .unset, .unset, .unset, .unset] [(.long ((0 : Int64) - (0 : Int64)))])) _
    refine XS.lstoreN X39.here hx rfl (hb hby d6_14) rfl (l' := #[.val (.ref r0), .val (.long q1), .second, .val (.long ((0 : Int64) - (0 : Int64))), .second, .unset, .unset]) rfl ?_
    show Steps p.tables e below (T39.setTop (mkF m 15 #[.val (.ref r0), .val (.long q1), .second, .val (.long ((0 : Int64) - (0 : Int64))), .second, .unset, .unset] [])) _
    refine XS.aloadN X39.here hx rfl (hb hby d6_15) rfl rfl ?_
    show Steps p.tables e below (T39.setTop (mkF m 16 #[.val (.ref r0), .val (.long q1), .second, .val (.long ((0 : Int64) - (0 : Int64))), .second, .unset, .unset] [(.ref r0)])) _
    refine st40 _ ?_
    show Steps p.tables e below (T40.setTop (mkF m 19 #[.val (.ref r0), .val (.long q1), .second, .val (.long ((0 : Int64) - (0 : Int64))), .second, .unset, .unset] [(.int uc)])) _
    refine XS.i2l X40.here hx rfl (hb hby d6_19) rfl ?_
    show Steps p.tables e below (T40.setTop (mkF m 20 #[.val (.ref r0), .val (.long q1), .second, .val (.long ((0 : Int64) - (0 : Int64))), .second, .unset, .unset] [(.long (uc.toInt64))])) _
    refine XS.aloadN X40.here hx rfl (hb hby d6_20) rfl rfl ?_
    show Steps p.tables e below (T40.setTop (mkF m 21 #[.val (.ref r0), .val (.long q1), .second, .val (.long ((0 : Int64) - (0 : Int64))), .second, .unset, .unset] [(.ref r0), (.long (uc.toInt64))])) _
    refine st41 _ ?_
    show Steps p.tables e below (T41.setTop (mkF m 24 #[.val (.ref r0), .val (.long q1), .second, .val (.long ((0 : Int64) - (0 : Int64))), .second, .unset, .unset] [(.long ux), (.long (uc.toInt64))])) _
    refine XS.lsub X41.here hx rfl (hb hby d6_24) rfl ?_
    show Steps p.tables e below (T41.setTop (mkF m 25 #[.val (.ref r0), .val (.long q1), .second, .val (.long ((0 : Int64) - (0 : Int64))), .second, .unset, .unset] [(.long ((uc.toInt64) - ux))])) _
    refine XS.aloadN X41.here hx rfl (hb hby d6_25) rfl rfl ?_
    show Steps p.tables e below (T41.setTop (mkF m 26 #[.val (.ref r0), .val (.long q1), .second, .val (.long ((0 : Int64) - (0 : Int64))), .second, .unset, .unset] [(.ref r0), (.long ((uc.toInt64) - ux))])) _
    refine st42 _ ?_
    show Steps p.tables e below (T42.setTop (mkF m 29 #[.val (.ref r0), .val (.long q1), .second, .val (.long ((0 : Int64) - (0 : Int64))), .second, .unset, .unset] [(.int ur), (.long ((uc.toInt64) - ux))])) _
    refine XS.i2l X42.here hx rfl (hb hby d6_29) rfl ?_
    show Steps p.tables e below (T42.setTop (mkF m 30 #[.val (.ref r0), .val (.long q1), .second, .val (.long ((0 : Int64) - (0 : Int64))), .second, .unset, .unset] [(.long (ur.toInt64)), (.long ((uc.toInt64) - ux))])) _
    refine XS.ladd X42.here hx rfl (hb hby d6_30) rfl ?_
    show Steps p.tables e below (T42.setTop (mkF m 31 #[.val (.ref r0), .val (.long q1), .second, .val (.long ((0 : Int64) - (0 : Int64))), .second, .unset, .unset] [(.long (((uc.toInt64) - ux) + (ur.toInt64)))])) _
    refine XS.lconst X42.here hx rfl (hb hby d6_31) ?_
    show Steps p.tables e below (T42.setTop (mkF m 32 #[.val (.ref r0), .val (.long q1), .second, .val (.long ((0 : Int64) - (0 : Int64))), .second, .unset, .unset] [(.long (1 : Int64)), (.long (((uc.toInt64) - ux) + (ur.toInt64)))])) _
    refine XS.lsub X42.here hx rfl (hb hby d6_32) rfl ?_
    show Steps p.tables e below (T42.setTop (mkF m 33 #[.val (.ref r0), .val (.long q1), .second, .val (.long ((0 : Int64) - (0 : Int64))), .second, .unset, .unset] [(.long ((((uc.toInt64) - ux) + (ur.toInt64)) - (1 : Int64)))])) _
    refine XS.aloadN X42.here hx rfl (hb hby d6_33) rfl rfl ?_
    show Steps p.tables e below (T42.setTop (mkF m 34 #[.val (.ref r0), .val (.long q1), .second, .val (.long ((0 : Int64) - (0 : Int64))), .second, .unset, .unset] [(.ref r0), (.long ((((uc.toInt64) - ux) + (ur.toInt64)) - (1 : Int64)))])) _
    refine st43 _ ?_
    show Steps p.tables e below (T43.setTop (mkF m 37 #[.val (.ref r0), .val (.long q1), .second, .val (.long ((0 : Int64) - (0 : Int64))), .second, .unset, .unset] [(.int ur), (.long ((((uc.toInt64) - ux) + (ur.toInt64)) - (1 : Int64)))])) _
    refine XS.i2l X43.here hx rfl (hb hby d6_37) rfl ?_
    show Steps p.tables e below (T43.setTop (mkF m 38 #[.val (.ref r0), .val (.long q1), .second, .val (.long ((0 : Int64) - (0 : Int64))), .second, .unset, .unset] [(.long (ur.toInt64)), (.long ((((uc.toInt64) - ux) + (ur.toInt64)) - (1 : Int64)))])) _
    refine XS.ldiv X43.here hx rfl (hb hby d6_38) rfl (own_neL hr) ?_
    show Steps p.tables e below (T43.setTop (mkF m 39 #[.val (.ref r0), .val (.long q1), .second, .val (.long ((0 : Int64) - (0 : Int64))), .second, .unset, .unset] [(.long (((((uc.toInt64) - ux) + (ur.toInt64)) - (1 : Int64)) / (ur.toInt64)))])) _
    refine XS.lstore X43.here hx rfl (hb hby d6_39) rfl (l' := #[.val (.ref r0), .val (.long q1), .second, .val (.long ((0 : Int64) - (0 : Int64))), .second, .val (.long (((((uc.toInt64) - ux) + (ur.toInt64)) - (1 : Int64)) / (ur.toInt64))), .second]) rfl ?_
    show Steps p.tables e below (T43.setTop (mkF m 41 #[.val (.ref r0), .val (.long q1), .second, .val (.long ((0 : Int64) - (0 : Int64))), .second, .val (.long (((((uc.toInt64) - ux) + (ur.toInt64)) - (1 : Int64)) / (ur.toInt64))), .second] [])) _
    refine XS.lloadN X43.here hx rfl (hb hby d6_41) rfl ?_
    show Steps p.tables e below (T43.setTop (mkF m 42 #[.val (.ref r0), .val (.long q1), .second, .val (.long ((0 : Int64) - (0 : Int64))), .second, .val (.long (((((uc.toInt64) - ux) + (ur.toInt64)) - (1 : Int64)) / (ur.toInt64))), .second] [(.long ((0 : Int64) - (0 : Int64)))])) _
    refine XS.lload X43.here hx rfl (hb hby d6_42) rfl ?_
    show Steps p.tables e below (T43.setTop (mkF m 44 #[.val (.ref r0), .val (.long q1), .second, .val (.long ((0 : Int64) - (0 : Int64))), .second, .val (.long (((((uc.toInt64) - ux) + (ur.toInt64)) - (1 : Int64)) / (ur.toInt64))), .second] [(.long (((((uc.toInt64) - ux) + (ur.toInt64)) - (1 : Int64)) / (ur.toInt64))), (.long ((0 : Int64) - (0 : Int64)))])) _
    refine st44 _ ?_
    exact kt
  by_cases hc47_46 : (f_cmp (((0 : Int64) - (0 : Int64)) + (-9223372036854775808 : Int64)) ((((((uc.toInt64) - ux) + (ur.toInt64)) - (1 : Int64)) / (ur.toInt64)) + (-9223372036854775808 : Int64))) < 0
  case pos =>
    obtain ⟨T47, X47, e47, st47⟩ := getF X44 hx hZ hown (host := "") (Or.inl (hw _ (List.mem_of_getElem? (i := 35) rfl))) Via.refl e44 F3 (g := (mkF m 57 #[.val (.ref r0), .val (.long q1), .second, .val (.long ((0 : Int64) - (0 : Int64))), .second, .val (.long (((((uc.toInt64) - ux) + (ur.toInt64)) - (1 : Int64)) / (ur.toInt64))), .second] [(.ref r0)])) rfl rfl (hb hby d6_57)
    obtain ⟨T48, X48, e48, st48⟩ := getF X47 hx hZ hown (host := "") (Or.inl (hw _ (List.mem_of_getElem? (i := 20) rfl))) Via.refl e47 F1 (g := (mkF m 62 #[.val (.ref r0), .val (.long q1), .second, .val (.long ((0 : Int64) - (0 : Int64))), .second, .val (.long (((((uc.toInt64) - ux) + (ur.toInt64)) - (1 : Int64)) / (ur.toInt64))), .second] [(.ref r0), (.long ((0 : Int64) - (0 : Int64))), (.long ux)])) rfl rfl (hb hby d6_62)
    obtain ⟨fs, hrT, hrunT, hendT, hWT, hsameT⟩ := X48.leave (hlocks := BodyLoose.notSynchronized Bd) (v := some (.long (ux + (((0 : Int64) - (0 : Int64)) * (ur.toInt64))))) (fun h => by rw [Bd.returns] at h; cases h)
    refine ⟨_, _, S45 _ ?_, hrunT, hendT, _, _, rfl, ?_, ⟨_, rfl⟩, hWT, hsameT.mono (by decide) (by decide)⟩
    · show Steps p.tables e below (T44.setTop (mkF m 47 #[.val (.ref r0), .val (.long q1), .second, .val (.long ((0 : Int64) - (0 : Int64))), .second, .val (.long (((((uc.toInt64) - ux) + (ur.toInt64)) - (1 : Int64)) / (ur.toInt64))), .second] [(.int (f_cmp (((0 : Int64) - (0 : Int64)) + (-9223372036854775808 : Int64)) ((((((uc.toInt64) - ux) + (ur.toInt64)) - (1 : Int64)) / (ur.toInt64)) + (-9223372036854775808 : Int64))))])) _
      refine XS.ifYes X44.here hx rfl (pc0 := 47) (pc' := 56) rfl (hb hby d6_47) rfl (XT.i0_lt_t hc47_46) (by decide) (by decide) ?_
      show Steps p.tables e below (T44.setTop (mkF m 56 #[.val (.ref r0), .val (.long q1), .second, .val (.long ((0 : Int64) - (0 : Int64))), .second, .val (.long (((((uc.toInt64) - ux) + (ur.toInt64)) - (1 : Int64)) / (ur.toInt64))), .second] [])) _
      refine XS.aloadN X44.here hx rfl (hb hby d6_56) rfl rfl ?_
      show Steps p.tables e below (T44.setTop (mkF m 57 #[.val (.ref r0), .val (.long q1), .second, .val (.long ((0 : Int64) - (0 : Int64))), .second, .val (.long (((((uc.toInt64) - ux) + (ur.toInt64)) - (1 : Int64)) / (ur.toInt64))), .second] [(.ref r0)])) _
      refine st47 _ ?_
      show Steps p.tables e below (T47.setTop (mkF m 60 #[.val (.ref r0), .val (.long q1), .second, .val (.long ((0 : Int64) - (0 : Int64))), .second, .val (.long (((((uc.toInt64) - ux) + (ur.toInt64)) - (1 : Int64)) / (ur.toInt64))), .second] [(.long ux)])) _
      refine XS.lloadN X47.here hx rfl (hb hby d6_60) rfl ?_
      show Steps p.tables e below (T47.setTop (mkF m 61 #[.val (.ref r0), .val (.long q1), .second, .val (.long ((0 : Int64) - (0 : Int64))), .second, .val (.long (((((uc.toInt64) - ux) + (ur.toInt64)) - (1 : Int64)) / (ur.toInt64))), .second] [(.long ((0 : Int64) - (0 : Int64))), (.long ux)])) _
      refine XS.aloadN X47.here hx rfl (hb hby d6_61) rfl rfl ?_
      show Steps p.tables e below (T47.setTop (mkF m 62 #[.val (.ref r0), .val (.long q1), .second, .val (.long ((0 : Int64) - (0 : Int64))), .second, .val (.long (((((uc.toInt64) - ux) + (ur.toInt64)) - (1 : Int64)) / (ur.toInt64))), .second] [(.ref r0), (.long ((0 : Int64) - (0 : Int64))), (.long ux)])) _
      refine st48 _ ?_
      show Steps p.tables e below (T48.setTop (mkF m 65 #[.val (.ref r0), .val (.long q1), .second, .val (.long ((0 : Int64) - (0 : Int64))), .second, .val (.long (((((uc.toInt64) - ux) + (ur.toInt64)) - (1 : Int64)) / (ur.toInt64))), .second] [(.int ur), (.long ((0 : Int64) - (0 : Int64))), (.long ux)])) _
      refine XS.i2l X48.here hx rfl (hb hby d6_65) rfl ?_
      show Steps p.tables e below (T48.setTop (mkF m 66 #[.val (.ref r0), .val (.long q1), .second, .val (.long ((0 : Int64) - (0 : Int64))), .second, .val (.long (((((uc.toInt64) - ux) + (ur.toInt64)) - (1 : Int64)) / (ur.toInt64))), .second] [(.long (ur.toInt64)), (.long ((0 : Int64) - (0 : Int64))), (.long ux)])) _
      refine XS.lmul X48.here hx rfl (hb hby d6_66) rfl ?_
      show Steps p.tables e below (T48.setTop (mkF m 67 #[.val (.ref r0), .val (.long q1), .second, .val (.long ((0 : Int64) - (0 : Int64))), .second, .val (.long (((((uc.toInt64) - ux) + (ur.toInt64)) - (1 : Int64)) / (ur.toInt64))), .second] [(.long (((0 : Int64) - (0 : Int64)) * (ur.toInt64))), (.long ux)])) _
      refine XS.ladd X48.here hx rfl (hb hby d6_67) rfl ?_
      show Steps p.tables e below (T48.setTop (mkF m 68 #[.val (.ref r0), .val (.long q1), .second, .val (.long ((0 : Int64) - (0 : Int64))), .second, .val (.long (((((uc.toInt64) - ux) + (ur.toInt64)) - (1 : Int64)) / (ur.toInt64))), .second] [(.long (ux + (((0 : Int64) - (0 : Int64)) * (ur.toInt64))))])) _
      exact retOut X48 hx Bd.returns rfl (by right; left; exact ⟨rfl, rfl, _, rfl⟩) (hb hby d6_68) hrT
    · show Q6 Z r0 q1 uc ur up ux h0 n0 _ T48.heap _
      rw [e48]
      have hv : f_pa uc ux ur = (ux + (((0 : Int64) - (0 : Int64)) * (ur.toInt64))) := by unfold f_pa; rw [if_pos hc47_46]
      exact ⟨(congrArg (fun z => some (Value.long z)) hv.symm), N44, rfl⟩
  case neg =>
    obtain ⟨T49, X49, e49, st49⟩ := getF X44 hx hZ hown (host := "") (Or.inl (hw _ (List.mem_of_getElem? (i := 18) rfl))) Via.refl e44 F0 (g := (mkF m 51 #[.val (.ref r0), .val (.long q1), .second, .val (.long ((0 : Int64) - (0 : Int64))), .second, .val (.long (((((uc.toInt64) - ux) + (ur.toInt64)) - (1 : Int64)) / (ur.toInt64))), .second] [(.ref r0)])) rfl rfl (hb hby d6_51)
    obtain ⟨fs, hrT, hrunT, hendT, hWT, hsameT⟩ := X49.leave (hlocks := BodyLoose.notSynchronized Bd) (v := some (.long (uc.toInt64))) (fun h => by rw [Bd.returns] at h; cases h)
    refine ⟨_, _, S45 _ ?_, hrunT, hendT, _, _, rfl, ?_, ⟨_, rfl⟩, hWT, hsameT.mono (by decide) (by decide)⟩
    · show Steps p.tables e below (T44.setTop (mkF m 47 #[.val (.ref r0), .val (.long q1), .second, .val (.long ((0 : Int64) - (0 : Int64))), .second, .val (.long (((((uc.toInt64) - ux) + (ur.toInt64)) - (1 : Int64)) / (ur.toInt64))), .second] [(.int (f_cmp (((0 : Int64) - (0 : Int64)) + (-9223372036854775808 : Int64)) ((((((uc.toInt64) - ux) + (ur.toInt64)) - (1 : Int64)) / (ur.toInt64)) + (-9223372036854775808 : Int64))))])) _
      refine XS.ifNo X44.here hx rfl (hb hby d6_47) rfl (XT.i0_lt_f hc47_46) ?_
      show Steps p.tables e below (T44.setTop (mkF m 50 #[.val (.ref r0), .val (.long q1), .second, .val (.long ((0 : Int64) - (0 : Int64))), .second, .val (.long (((((uc.toInt64) - ux) + (ur.toInt64)) - (1 : Int64)) / (ur.toInt64))), .second] [])) _
      refine XS.aloadN X44.here hx rfl (hb hby d6_50) rfl rfl ?_
      show Steps p.tables e below (T44.setTop (mkF m 51 #[.val (.ref r0), .val (.long q1), .second, .val (.long ((0 : Int64) - (0 : Int64))), .second, .val (.long (((((uc.toInt64) - ux) + (ur.toInt64)) - (1 : Int64)) / (ur.toInt64))), .second] [(.ref r0)])) _
      refine st49 _ ?_
      show Steps p.tables e below (T49.setTop (mkF m 54 #[.val (.ref r0), .val (.long q1), .second, .val (.long ((0 : Int64) - (0 : Int64))), .second, .val (.long (((((uc.toInt64) - ux) + (ur.toInt64)) - (1 : Int64)) / (ur.toInt64))), .second] [(.int uc)])) _
      refine XS.i2l X49.here hx rfl (hb hby d6_54) rfl ?_
      show Steps p.tables e below (T49.setTop (mkF m 55 #[.val (.ref r0), .val (.long q1), .second, .val (.long ((0 : Int64) - (0 : Int64))), .second, .val (.long (((((uc.toInt64) - ux) + (ur.toInt64)) - (1 : Int64)) / (ur.toInt64))), .second] [(.long (uc.toInt64))])) _
      exact retOut X49 hx Bd.returns rfl (by right; left; exact ⟨rfl, rfl, _, rfl⟩) (hb hby d6_55) hrT
    · show Q6 Z r0 q1 uc ur up ux h0 n0 _ T49.heap _
      rw [e49]
      have hv : f_pa uc ux ur = (uc.toInt64) := by unfold f_pa; rw [if_neg hc47_46]
      exact ⟨(congrArg (fun z => some (Value.long z)) hv.symm), N44, rfl⟩
theorem d12_0 : decode prog_19_method_1_code 0 = .ok (.aload_n 0, 1) := by decide +kernel
theorem d12_1 : decode prog_19_method_1_code 1 = .ok (.invokespecial 1, 3) := by decide +kernel
theorem d12_4 : decode prog_19_method_1_code 4 = .ok (.aload_n 0, 1) := by decide +kernel
theorem d12_5 : decode prog_19_method_1_code 5 = .ok (.lload_n 1, 1) := by decide +kernel
theorem d12_6 : decode prog_19_method_1_code 6 = .ok (.putfield 7, 3) := by decide +kernel
theorem d12_9 : decode prog_19_method_1_code 9 = .ok (.aload_n 0, 1) := by decide +kernel
theorem d12_10 : decode prog_19_method_1_code 10 = .ok (.aload_n 3, 1) := by decide +kernel
theorem d12_11 : decode prog_19_method_1_code 11 = .ok (.putfield 13, 3) := by decide +kernel
theorem d12_14 : decode prog_19_method_1_code 14 = .ok (.aload_n 0, 1) := by decide +kernel
theorem d12_15 : decode prog_19_method_1_code 15 = .ok (.iload 4, 2) := by decide +kernel
theorem d12_17 : decode prog_19_method_1_code 17 = .ok (.putfield 17, 3) := by decide +kernel
theorem d12_20 : decode prog_19_method_1_code 20 = .ok (.return_, 1) := by decide +kernel
theorem pn_Decision : plainName "com/example/even_bucket/evenbucket/Decision" = true := by first | (simp [plainName, overriddenIn]; done) | decide +kernel
theorem ef12 (m : MethodId) (x0 : Addr) (x1 : Int64) (x2 : Addr) (x3 : Int32) : entryFrame m #[(.ref x0), (.long x1), (.ref x2), (.int x3)] 5 = mkF m 0 #[.val (.ref x0), .val (.long x1), .second, .val (.ref x2), .val (.int x3)] [] := by first | (simp [entryFrame, mkF, argsToLocals, Value.category]; done) | rfl
def Q12 (Z : State) (r0 : Addr) (q1 : Int64) (r2 : Addr) (p3 : Int32) (h0 : Heap) (n0 : Nat) (v : Option Value) (h : Heap) (L : List Loc) : Prop := v = none ∧ Fr n0 L ∧ Keep h0 h [r0] ∧ Fld Z h r0 "com/example/even_bucket/evenbucket/Decision" "remaining" "J" (.long q1) ∧ Fld Z h r0 "com/example/even_bucket/evenbucket/Decision" "retryAfter" "Ljava/time/Duration;" (.ref r2)
set_option maxRecDepth 65536 in
set_option maxHeartbeats 40000000 in
theorem rm12 (l : Launch) (Z : State) (a0 : Array Value) (hw : ∀ d ∈ tables_1, d.before a0 Z = true) (ws : List Jvm.Cond) (r0 : Addr) (q1 : Int64) (r2 : Addr) (p3 : Int32) (h0 : Heap) (n0 : Nat) (Z0 : n0 ≤ h0.size) (F0 : Fld Z h0 r0 "com/example/even_bucket/evenbucket/Decision" "remaining" "J" (.long (0 : Int64))) (F1 : Fld Z h0 r0 "com/example/even_bucket/evenbucket/Decision" "retryAfter" "Ljava/time/Duration;" .null) (F2 : Fld Z h0 r0 "com/example/even_bucket/evenbucket/Decision" "byFallback" "Z" (.int (0 : Int32))) (E1 : Exa Z h0 r0 "com/example/even_bucket/evenbucket/Decision") (g1 : n0 ≤ r0) :
    MetFree l (⟨"com/example/even_bucket/evenbucket/Decision", "<init>", "(JLjava/time/Duration;Z)V"⟩ : MethodName) (head1 (Jvm.Cond.code (⟨"com/example/even_bucket/evenbucket/Decision", "<init>", "(JLjava/time/Duration;Z)V"⟩ : MethodName) prog_19_method_1_code 5 none :: ws) ({ frames := 1, cells := 0, slots := 0, locals := 12 } : Room)) (fun a U => a = #[(.ref r0), (.long q1), (.ref r2), (.int p3)] ∧ Z.Warmed39 U.vm ∧ U.heap = h0) (fun _ _ _ _ _ => True) (fun _ U o U' => ∃ v L, o = .returned v ∧ Q12 Z r0 q1 r2 p3 h0 n0 v U'.heap L ∧ FrameEnd U o U' L ({ frames := 1, cells := 0, slots := 0, locals := 12 } : Room).cells ({ frames := 1, cells := 0, slots := 0, locals := 12 } : Room).slots) := by
  refine MetFree.of_bodySF (plainFor_of_name pn_Decision) hisR ?_
  intro p e s m args below meth c s₁ Bd hml0 hP hK
  obtain ⟨rfl, hZ, hh⟩ := hP
  have hx := Bd.exec
  have hby := Bd.bytes
  have hml : c.maxLocals = 5 := hml0
  have hown : s.vm.findClass "com/example/even_bucket/evenbucket/Decision" = some m.cls := findClass_of_methodNamed Bd.named
  have hnm := (name_of_methodNamed Bd.named Bd.method).1
  have X0 : Stand p l e ({ frames := 1, cells := 0, slots := 0, locals := 12 } : Room) s m #[(.ref r0), (.long q1), (.ref r2), (.int p3)] below meth c s₁ [] 0 0 := Stand.of_body Bd
  have e0 : s₁.heap = h0 := by rw [← hh, Bd.state]; rfl
  have N0 := Fr.nil n0
  have pre0 : ∀ t, Steps p.tables e below (s₁.setTop (mkF m 0 #[.val (.ref r0), .val (.long q1), .second, .val (.ref r2), .val (.int p3)] [])) t → Steps p.tables e below (s₁.setTop (entryFrame m #[(.ref r0), (.long q1), (.ref r2), (.int p3)] 5)) t := fun t k => castTop (ef12 m r0 q1 r2 p3) k
  obtain ⟨T50, X50, e50, st50⟩ := initO X0 hx hZ hown (hw _ (List.mem_of_getElem? (i := 71) rfl)) (hw _ (List.mem_of_getElem? (i := 16) rfl)) (hw _ (List.mem_of_getElem? (i := 17) rfl)) e0 (g := (mkF m 1 #[.val (.ref r0), .val (.long q1), .second, .val (.ref r2), .val (.int p3)] [(.ref r0)])) rfl (by rw [hml]; rfl) rfl (hb hby d12_1) (by decide) (W := 0) (by show 2 * 0 + _ ≤ _; exact Nat.le_of_eq rfl) (by decide)
  obtain ⟨T51, h51, X51, e51, W51, st51⟩ := putF X50 hx hZ hown (host := "") (Or.inl (hw _ (List.mem_of_getElem? (i := 72) rfl))) Via.refl e50 F0 E1 (Or.inr ⟨(hw _ (List.mem_of_getElem? (i := 73) rfl)), rfl, hnm⟩) (hw _ (List.mem_of_getElem? (i := 65) rfl)) (ty := .long) (by decide) rfl rfl (g := (mkF m 6 #[.val (.ref r0), .val (.long q1), .second, .val (.ref r2), .val (.int p3)] [(.long q1), (.ref r0)])) rfl rfl (hb hby d12_6)
  have K52 : Keep h0 h51 [r0] := (Keep.refl h0 [r0]).wr W51 (Or.inl (List.mem_of_getElem? (i := 0) rfl))
  have c53 : Fld Z h51 r0 "com/example/even_bucket/evenbucket/Decision" "remaining" "J" (.long q1) := F0.same W51
  have N54 := Fr.snoc X51 N0 g1
  have c55 : Exa Z h51 r0 "com/example/even_bucket/evenbucket/Decision" := (E1.wr W51)
  have c56 : Fld Z h51 r0 "com/example/even_bucket/evenbucket/Decision" "retryAfter" "Ljava/time/Duration;" .null := (F1.other W51 (Or.inr (slot_ne (Or.inr (hw _ (List.mem_of_getElem? (i := 75) rfl))) (Or.inr (hw _ (List.mem_of_getElem? (i := 73) rfl))) (by decide) (t := (.object "java/time/Duration")) (t' := .long) (by decide) (by decide))))
  obtain ⟨T57, h57, X57, e57, W57, st57⟩ := putF X51 hx hZ hown (host := "") (Or.inl (hw _ (List.mem_of_getElem? (i := 74) rfl))) Via.refl e51 c56 c55 (Or.inr ⟨(hw _ (List.mem_of_getElem? (i := 75) rfl)), rfl, hnm⟩) (hw _ (List.mem_of_getElem? (i := 65) rfl)) (ty := (.object "java/time/Duration")) (by decide) rfl rfl (g := (mkF m 11 #[.val (.ref r0), .val (.long q1), .second, .val (.ref r2), .val (.int p3)] [(.ref r2), (.ref r0)])) rfl rfl (hb hby d12_11)
  have K58 : Keep h0 h57 [r0] := K52.wr W57 (Or.inl (List.mem_of_getElem? (i := 0) rfl))
  have c59 : Fld Z h57 r0 "com/example/even_bucket/evenbucket/Decision" "retryAfter" "Ljava/time/Duration;" (.ref r2) := c56.same W57
  have N60 := Fr.snoc X57 N54 g1
  have c61 : Exa Z h57 r0 "com/example/even_bucket/evenbucket/Decision" := (c55.wr W57)
  have c62 : Fld Z h57 r0 "com/example/even_bucket/evenbucket/Decision" "byFallback" "Z" (.int (0 : Int32)) := ((F2.other W51 (Or.inr (slot_ne (Or.inr (hw _ (List.mem_of_getElem? (i := 77) rfl))) (Or.inr (hw _ (List.mem_of_getElem? (i := 73) rfl))) (by decide) (t := .boolean) (t' := .long) (by decide) (by decide)))).other W57 (Or.inr (slot_ne (Or.inr (hw _ (List.mem_of_getElem? (i := 77) rfl))) (Or.inr (hw _ (List.mem_of_getElem? (i := 75) rfl))) (by decide) (t := .boolean) (t' := (.object "java/time/Duration")) (by decide) (by decide))))
  obtain ⟨T63, h63, X63, e63, W63, st63⟩ := putFN X57 hx hZ hown (hw _ (List.mem_of_getElem? (i := 76) rfl)) Via.refl e57 c62 c61 (Or.inr ⟨(hw _ (List.mem_of_getElem? (i := 77) rfl)), rfl, hnm⟩) (hw _ (List.mem_of_getElem? (i := 65) rfl)) (ty := .boolean) (v' := (.int (nar .boolean p3))) (by decide) rfl (fits_nar_bool _) (g := (mkF m 17 #[.val (.ref r0), .val (.long q1), .second, .val (.ref r2), .val (.int p3)] [(.int p3), (.ref r0)])) rfl rfl (hb hby d12_17)
  have K64 : Keep h0 h63 [r0] := K58.wr W63 (Or.inl (List.mem_of_getElem? (i := 0) rfl))
  have c65 : Fld Z h63 r0 "com/example/even_bucket/evenbucket/Decision" "byFallback" "Z" (.int (nar .boolean p3)) := c62.same W63
  have N66 := Fr.snoc X63 N60 g1
  obtain ⟨fs, hrT, hrunT, hendT, hWT, hsameT⟩ := X63.leave (hlocks := BodyLoose.notSynchronized Bd) (v := none) (fun _ => rfl)
  refine ⟨_, _, pre0 _ ?_, hrunT, hendT, _, _, rfl, ?_, ⟨_, rfl⟩, hWT, hsameT.mono (by decide) (by decide)⟩
  · show Steps p.tables e below (s₁.setTop (mkF m 0 #[.val (.ref r0), .val (.long q1), .second, .val (.ref r2), .val (.int p3)] [])) _
    refine XS.aloadN X0.here hx rfl (hb hby d12_0) rfl rfl ?_
    show Steps p.tables e below (s₁.setTop (mkF m 1 #[.val (.ref r0), .val (.long q1), .second, .val (.ref r2), .val (.int p3)] [(.ref r0)])) _
    refine st50 _ ?_
    show Steps p.tables e below (T50.setTop (mkF m 4 #[.val (.ref r0), .val (.long q1), .second, .val (.ref r2), .val (.int p3)] [])) _
    refine XS.aloadN X50.here hx rfl (hb hby d12_4) rfl rfl ?_
    show Steps p.tables e below (T50.setTop (mkF m 5 #[.val (.ref r0), .val (.long q1), .second, .val (.ref r2), .val (.int p3)] [(.ref r0)])) _
    refine XS.lloadN X50.here hx rfl (hb hby d12_5) rfl ?_
    show Steps p.tables e below (T50.setTop (mkF m 6 #[.val (.ref r0), .val (.long q1), .second, .val (.ref r2), .val (.int p3)] [(.long q1), (.ref r0)])) _
    refine st51 _ ?_
    show Steps p.tables e below (T51.setTop (mkF m 9 #[.val (.ref r0), .val (.long q1), .second, .val (.ref r2), .val (.int p3)] [])) _
    refine XS.aloadN X51.here hx rfl (hb hby d12_9) rfl rfl ?_
    show Steps p.tables e below (T51.setTop (mkF m 10 #[.val (.ref r0), .val (.long q1), .second, .val (.ref r2), .val (.int p3)] [(.ref r0)])) _
    refine XS.aloadN X51.here hx rfl (hb hby d12_10) rfl rfl ?_
    show Steps p.tables e below (T51.setTop (mkF m 11 #[.val (.ref r0), .val (.long q1), .second, .val (.ref r2), .val (.int p3)] [(.ref r2), (.ref r0)])) _
    refine st57 _ ?_
    show Steps p.tables e below (T57.setTop (mkF m 14 #[.val (.ref r0), .val (.long q1), .second, .val (.ref r2), .val (.int p3)] [])) _
    refine XS.aloadN X57.here hx rfl (hb hby d12_14) rfl rfl ?_
    show Steps p.tables e below (T57.setTop (mkF m 15 #[.val (.ref r0), .val (.long q1), .second, .val (.ref r2), .val (.int p3)] [(.ref r0)])) _
    refine XS.iload X57.here hx rfl (hb hby d12_15) rfl ?_
    show Steps p.tables e below (T57.setTop (mkF m 17 #[.val (.ref r0), .val (.long q1), .second, .val (.ref r2), .val (.int p3)] [(.int p3), (.ref r0)])) _
    refine st63 _ ?_
    show Steps p.tables e below (T63.setTop (mkF m 20 #[.val (.ref r0), .val (.long q1), .second, .val (.ref r2), .val (.int p3)] [])) _
    exact X63.returnOut hx Bd.returns (hb hby d12_20) hrT
  · show Q12 Z r0 q1 r2 p3 h0 n0 _ T63.heap _
    rw [e63]
    have c67 : Fld Z h63 r0 "com/example/even_bucket/evenbucket/Decision" "remaining" "J" (.long q1) := ((c53.other W57 (Or.inr (slot_ne (Or.inr (hw _ (List.mem_of_getElem? (i := 73) rfl))) (Or.inr (hw _ (List.mem_of_getElem? (i := 75) rfl))) (by decide) (t := .long) (t' := (.object "java/time/Duration")) (by decide) (by decide)))).other W63 (Or.inr (slot_ne (Or.inr (hw _ (List.mem_of_getElem? (i := 73) rfl))) (Or.inr (hw _ (List.mem_of_getElem? (i := 77) rfl))) (by decide) (t := .long) (t' := .boolean) (by decide) (by decide))))
    have c68 : Fld Z h63 r0 "com/example/even_bucket/evenbucket/Decision" "retryAfter" "Ljava/time/Duration;" (.ref r2) := (c59.other W63 (Or.inr (slot_ne (Or.inr (hw _ (List.mem_of_getElem? (i := 75) rfl))) (Or.inr (hw _ (List.mem_of_getElem? (i := 77) rfl))) (by decide) (t := (.object "java/time/Duration")) (t' := .boolean) (by decide) (by decide))))
    exact ⟨rfl, N66, K64, c67, c68⟩
theorem d11_0 : decode prog_19_method_2_code 0 = .ok (.lload_n 0, 1) := by decide +kernel
theorem d11_1 : decode prog_19_method_2_code 1 = .ok (.lconst 0, 1) := by decide +kernel
theorem d11_2 : decode prog_19_method_2_code 2 = .ok (.lcmp, 1) := by decide +kernel
theorem d11_3 : decode prog_19_method_2_code 3 = .ok (.ifCond .ge 17, 3) := by decide +kernel
theorem d11_20 : decode prog_19_method_2_code 20 = .ok (.new 8, 3) := by decide +kernel
theorem d11_23 : decode prog_19_method_2_code 23 = .ok (.dup, 1) := by decide +kernel
theorem d11_24 : decode prog_19_method_2_code 24 = .ok (.lload_n 0, 1) := by decide +kernel
theorem d11_25 : decode prog_19_method_2_code 25 = .ok (.getstatic 30, 3) := by decide +kernel
theorem d11_28 : decode prog_19_method_2_code 28 = .ok (.iconst 0, 1) := by decide +kernel
theorem pd__JLjava_time_Duration_Z_V : parseMethodDescriptor "(JLjava/time/Duration;Z)V" = some ⟨[.long, (.object "java/time/Duration"), .boolean], none⟩ := by decide +kernel
theorem d11_29 : decode prog_19_method_2_code 29 = .ok (.invokespecial 35, 3) := by decide +kernel
theorem d11_32 : decode prog_19_method_2_code 32 = .ok (.areturn, 1) := by decide +kernel
theorem ef11 (m : MethodId) (x0 : Int64) : entryFrame m #[(.long x0)] 2 = mkF m 0 #[.val (.long x0), .second] [] := by first | (simp [entryFrame, mkF, argsToLocals, Value.category]; done) | rfl
def Q11 (Z : State) (q0 : Int64) (vz : Addr) (h0 : Heap) (n0 : Nat) (v : Option Value) (h : Heap) (L : List Loc) : Prop := ∃ bb : Addr, v = some (.ref bb) ∧ Fr n0 L ∧ Keep h0 h [] ∧ h0.size ≤ bb ∧ Exa Z h bb "com/example/even_bucket/evenbucket/Decision" ∧ Fld Z h bb "com/example/even_bucket/evenbucket/Decision" "remaining" "J" (.long q0) ∧ Fld Z h bb "com/example/even_bucket/evenbucket/Decision" "retryAfter" "Ljava/time/Duration;" (.ref vz)
set_option maxRecDepth 65536 in
set_option maxHeartbeats 40000000 in
theorem rm11 (l : Launch) (Z : State) (a0 : Array Value) (hw : ∀ d ∈ tables_1, d.before a0 Z = true) (ws : List Jvm.Cond) (q0 : Int64) (vz : Addr) (h0 : Heap) (n0 : Nat) (Z0 : n0 ≤ h0.size) (hn : ¬ q0 < (0 : Int64)) (Sz : Sta Z h0 "java/time/Duration" "ZERO" "Ljava/time/Duration;" (.ref vz)) :
    MetFree l (⟨"com/example/even_bucket/evenbucket/Decision", "allow", "(J)Lcom/example/even_bucket/evenbucket/Decision;"⟩ : MethodName) (head1 (Jvm.Cond.code (⟨"com/example/even_bucket/evenbucket/Decision", "allow", "(J)Lcom/example/even_bucket/evenbucket/Decision;"⟩ : MethodName) prog_19_method_2_code 2 (some (.object "com/example/even_bucket/evenbucket/Decision")) :: ws) ({ frames := 2, cells := 1, slots := 3, locals := 29 } : Room)) (fun a U => a = #[(.long q0)] ∧ Z.Warmed39 U.vm ∧ U.heap = h0) (fun _ _ _ _ _ => True) (fun _ U o U' => ∃ v L, o = .returned v ∧ Q11 Z q0 vz h0 n0 v U'.heap L ∧ FrameEnd U o U' L ({ frames := 2, cells := 1, slots := 3, locals := 29 } : Room).cells ({ frames := 2, cells := 1, slots := 3, locals := 29 } : Room).slots) := by
  refine MetFree.of_bodySF (plainFor_of_name pn_Decision) hisR ?_
  intro p e s m args below meth c s₁ Bd hml0 hP hK
  obtain ⟨rfl, hZ, hh⟩ := hP
  have hx := Bd.exec
  have hby := Bd.bytes
  have hml : c.maxLocals = 2 := hml0
  have hown : s.vm.findClass "com/example/even_bucket/evenbucket/Decision" = some m.cls := findClass_of_methodNamed Bd.named
  have hnm := (name_of_methodNamed Bd.named Bd.method).1
  have X0 : Stand p l e ({ frames := 2, cells := 1, slots := 3, locals := 29 } : Room) s m #[(.long q0)] below meth c s₁ [] 0 0 := Stand.of_body Bd
  have e0 : s₁.heap = h0 := by rw [← hh, Bd.state]; rfl
  have N0 := Fr.nil n0
  have pre0 : ∀ t, Steps p.tables e below (s₁.setTop (mkF m 0 #[.val (.long q0), .second] [])) t → Steps p.tables e below (s₁.setTop (entryFrame m #[(.long q0)] 2)) t := fun t k => castTop (ef11 m q0) k
  obtain ⟨T69, h69, X69, e69, E69, A69, D69, -, st69⟩ := newO X0 hx hZ hown (hw _ (List.mem_of_getElem? (i := 64) rfl)) (hw _ (List.mem_of_getElem? (i := 65) rfl)) (hw _ (List.mem_of_getElem? (i := 62) rfl)) e0 (g := (mkF m 20 #[.val (.long q0), .second] [])) rfl (hb hby d11_20) (by decide) (by decide)
  obtain ⟨b69, g69⟩ : ∃ z, z = h0.size := ⟨_, rfl⟩
  rw [← g69] at A69 D69 st69
  have ge_b69 : n0 ≤ b69 := Nat.le_trans Z0 (Nat.le_of_eq g69.symm)
  have sz_b69 : h0.size ≤ b69 := Nat.le_of_eq g69.symm
  have K70 : Keep h0 h69 [] := (Keep.refl h0 []).ext E69
  have F71 : Fld Z h69 b69 "com/example/even_bucket/evenbucket/Decision" "remaining" "J" (.long (0 : Int64)) := D69 (Or.inr (hw _ (List.mem_of_getElem? (i := 73) rfl))) (ty := .long) (by decide)
  have F72 : Fld Z h69 b69 "com/example/even_bucket/evenbucket/Decision" "retryAfter" "Ljava/time/Duration;" .null := D69 (Or.inr (hw _ (List.mem_of_getElem? (i := 75) rfl))) (ty := (.object "java/time/Duration")) (by decide)
  have F73 : Fld Z h69 b69 "com/example/even_bucket/evenbucket/Decision" "byFallback" "Z" (.int (0 : Int32)) := D69 (Or.inr (hw _ (List.mem_of_getElem? (i := 77) rfl))) (ty := .boolean) (by decide)
  have c74 : Sta Z h69 "java/time/Duration" "ZERO" "Ljava/time/Duration;" (.ref vz) := (Sz.ext E69)
  obtain ⟨T75, X75, e75, st75⟩ := getS2 X69 hx hZ hown (host := "") (Or.inl (hw _ (List.mem_of_getElem? (i := 66) rfl))) Via.refl e69 c74 (g := (mkF m 25 #[.val (.long q0), .second] [(.long q0), (.ref b69), (.ref b69)])) rfl (hb hby d11_25)
  obtain ⟨_, _, ⟨T76, L76, k76, n76⟩, -, X76, ⟨Lc76, hQ76, l76, y76, z76⟩, st76⟩ := X75.specialBack hx (y := (⟨"com/example/even_bucket/evenbucket/Decision", "<init>", "(JLjava/time/Duration;Z)V"⟩ : MethodName)) rfl hown (mvT hZ (hw _ (List.mem_of_getElem? (i := 68) rfl))) (mvT hZ (hw _ (List.mem_of_getElem? (i := 69) rfl))) (mvT hZ (hw _ (List.mem_of_getElem? (i := 70) rfl))) (by decide) (backOf (W := 1) (rm12 l Z a0 hw [] b69 q0 vz (0 : Int32) h69 n0 (Nat.le_trans Z0 K70.1) F71 F72 F73 A69 ge_b69) hZ (hw _ (List.mem_of_getElem? (i := 70) rfl)) (hw _ (List.mem_of_getElem? (i := 62) rfl)) (by decide) (by decide)) (g := (mkF m 29 #[.val (.long q0), .second] [(.int (0 : Int32)), (.ref vz), (.long q0), (.ref b69), (.ref b69)])) rfl (by rw [hml]; rfl) (Steps.refl _) (a := b69) (argsL := [(.long q0), (.ref vz), (.int (0 : Int32))]) (rest := [(.ref b69)]) (lenOf pd__JLjava_time_Duration_Z_V rfl) rfl (by show 2 * 0 + _ ≤ _; exact Nat.le_of_eq rfl) (hb hby d11_29) (fun _ _ => ⟨rfl, e75, (by decide : 1 + 0 ≤ _), (by decide : 3 + 0 ≤ _)⟩)
  dsimp only [Pt.U, Pt.locs, Pt.cells, Pt.slots] at X76 l76 y76 z76 st76 hQ76
  subst l76 y76 z76
  obtain ⟨rfl, Nq76, Kq76, f76_0, f76_1⟩ := hQ76
  have K77 : Keep h0 T76.heap [] := K70.trans Kq76 (fun x hx => by cases List.mem_singleton.mp hx; exact Or.inr sz_b69)
  have N76 := Fr.app N0 Nq76
  obtain ⟨fs, hrT, hrunT, hendT, hWT, hsameT⟩ := X76.leave (hlocks := BodyLoose.notSynchronized Bd) (v := some (.ref b69)) (fun h => by rw [Bd.returns] at h; cases h)
  refine ⟨_, _, pre0 _ ?_, hrunT, hendT, _, _, rfl, ?_, ⟨_, rfl⟩, hWT, hsameT.mono (by decide) (by decide)⟩
  · show Steps p.tables e below (s₁.setTop (mkF m 0 #[.val (.long q0), .second] [])) _
    refine XS.lloadN X0.here hx rfl (hb hby d11_0) rfl ?_
    show Steps p.tables e below (s₁.setTop (mkF m 1 #[.val (.long q0), .second] [(.long q0)])) _
    refine XS.lconst X0.here hx rfl (hb hby d11_1) ?_
    show Steps p.tables e below (s₁.setTop (mkF m 2 #[.val (.long q0), .second] [(.long (0 : Int64)), (.long q0)])) _
    refine XT.lcmp X0.here hx rfl (hb hby d11_2) rfl ?_
    show Steps p.tables e below (s₁.setTop (mkF m 3 #[.val (.long q0), .second] [(.int (XT.cmpL q0 (0 : Int64)))])) _
    refine XS.ifYes X0.here hx rfl (pc0 := 3) (pc' := 20) rfl (hb hby d11_3) rfl (XT.ll_ge_t hn) (by decide) (by decide) ?_
    show Steps p.tables e below (s₁.setTop (mkF m 20 #[.val (.long q0), .second] [])) _
    refine st69 _ ?_
    show Steps p.tables e below (T69.setTop (mkF m 23 #[.val (.long q0), .second] [(.ref b69)])) _
    refine XS.dup X69.here hx rfl (hb hby d11_23) rfl rfl ?_
    show Steps p.tables e below (T69.setTop (mkF m 24 #[.val (.long q0), .second] [(.ref b69), (.ref b69)])) _
    refine XS.lloadN X69.here hx rfl (hb hby d11_24) rfl ?_
    show Steps p.tables e below (T69.setTop (mkF m 25 #[.val (.long q0), .second] [(.long q0), (.ref b69), (.ref b69)])) _
    refine st75 _ ?_
    show Steps p.tables e below (T75.setTop (mkF m 28 #[.val (.long q0), .second] [(.ref vz), (.long q0), (.ref b69), (.ref b69)])) _
    refine XS.iconst X75.here hx rfl (hb hby d11_28) ?_
    show Steps p.tables e below (T75.setTop (mkF m 29 #[.val (.long q0), .second] [(.int (0 : Int32)), (.ref vz), (.long q0), (.ref b69), (.ref b69)])) _
    refine st76.trans ?_
    show Steps p.tables e below (T76.setTop (mkF m 32 #[.val (.long q0), .second] [(.ref b69)])) _
    exact retOut X76 hx Bd.returns rfl (by right; right; right; right; exact ⟨rfl, rfl, rfl⟩) (hb hby d11_32) hrT
  · show Q11 Z q0 vz h0 n0 _ T76.heap _
    have c78 : Exa Z T76.heap b69 "com/example/even_bucket/evenbucket/Decision" := (A69.keep Kq76)
    exact ⟨b69, rfl, N76, K77, sz_b69, c78, f76_0, f76_1⟩
theorem own_max (q : Int64) : f_maxL q q = q := by unfold f_maxL; split <;> rfl
theorem d20_0 : decode jdk_2316_method_17_code 0 = .ok (.aload_n 0, 1) := by decide +kernel
theorem d20_1 : decode jdk_2316_method_17_code 1 = .ok (.invokespecial 218, 3) := by decide +kernel
theorem d20_4 : decode jdk_2316_method_17_code 4 = .ok (.aload_n 0, 1) := by decide +kernel
theorem d20_5 : decode jdk_2316_method_17_code 5 = .ok (.lload_n 1, 1) := by decide +kernel
theorem d20_6 : decode jdk_2316_method_17_code 6 = .ok (.putfield 221, 3) := by decide +kernel
theorem d20_9 : decode jdk_2316_method_17_code 9 = .ok (.aload_n 0, 1) := by decide +kernel
theorem d20_10 : decode jdk_2316_method_17_code 10 = .ok (.iload_n 3, 1) := by decide +kernel
theorem d20_11 : decode jdk_2316_method_17_code 11 = .ok (.putfield 224, 3) := by decide +kernel
theorem d20_14 : decode jdk_2316_method_17_code 14 = .ok (.return_, 1) := by decide +kernel
theorem pn_Duration : plainName "java/time/Duration" = true := by first | (simp [plainName, overriddenIn]; done) | decide +kernel
theorem ef20 (m : MethodId) (x0 : Addr) (x1 : Int64) (x2 : Int32) : entryFrame m #[(.ref x0), (.long x1), (.int x2)] 4 = mkF m 0 #[.val (.ref x0), .val (.long x1), .second, .val (.int x2)] [] := by first | (simp [entryFrame, mkF, argsToLocals, Value.category]; done) | rfl
def Q20 (Z : State) (r0 : Addr) (q1 : Int64) (p2 : Int32) (h0 : Heap) (n0 : Nat) (v : Option Value) (h : Heap) (L : List Loc) : Prop := v = none ∧ Fr n0 L ∧ Keep h0 h [r0] ∧ Fld Z h r0 "java/time/Duration" "seconds" "J" (.long q1) ∧ Fld Z h r0 "java/time/Duration" "nanos" "I" (.int p2)
set_option maxRecDepth 65536 in
set_option maxHeartbeats 40000000 in
theorem rm20 (l : Launch) (Z : State) (a0 : Array Value) (hw : ∀ d ∈ tables_1, d.before a0 Z = true) (ws : List Jvm.Cond) (r0 : Addr) (q1 : Int64) (p2 : Int32) (h0 : Heap) (n0 : Nat) (Z0 : n0 ≤ h0.size) (F0 : Fld Z h0 r0 "java/time/Duration" "seconds" "J" (.long (0 : Int64))) (F1 : Fld Z h0 r0 "java/time/Duration" "nanos" "I" (.int (0 : Int32))) (E1 : Exa Z h0 r0 "java/time/Duration") (g1 : n0 ≤ r0) :
    MetFree l (⟨"java/time/Duration", "<init>", "(JI)V"⟩ : MethodName) (head1 (Jvm.Cond.code (⟨"java/time/Duration", "<init>", "(JI)V"⟩ : MethodName) jdk_2316_method_17_code 4 none :: ws) ({ frames := 1, cells := 0, slots := 0, locals := 12 } : Room)) (fun a U => a = #[(.ref r0), (.long q1), (.int p2)] ∧ Z.Warmed39 U.vm ∧ U.heap = h0) (fun _ _ _ _ _ => True) (fun _ U o U' => ∃ v L, o = .returned v ∧ Q20 Z r0 q1 p2 h0 n0 v U'.heap L ∧ FrameEnd U o U' L ({ frames := 1, cells := 0, slots := 0, locals := 12 } : Room).cells ({ frames := 1, cells := 0, slots := 0, locals := 12 } : Room).slots) := by
  refine MetFree.of_bodySF (plainFor_of_name pn_Duration) hisR ?_
  intro p e s m args below meth c s₁ Bd hml0 hP hK
  obtain ⟨rfl, hZ, hh⟩ := hP
  have hx := Bd.exec
  have hby := Bd.bytes
  have hml : c.maxLocals = 4 := hml0
  have hown : s.vm.findClass "java/time/Duration" = some m.cls := findClass_of_methodNamed Bd.named
  have hnm := (name_of_methodNamed Bd.named Bd.method).1
  have X0 : Stand p l e ({ frames := 1, cells := 0, slots := 0, locals := 12 } : Room) s m #[(.ref r0), (.long q1), (.int p2)] below meth c s₁ [] 0 0 := Stand.of_body Bd
  have e0 : s₁.heap = h0 := by rw [← hh, Bd.state]; rfl
  have N0 := Fr.nil n0
  have pre0 : ∀ t, Steps p.tables e below (s₁.setTop (mkF m 0 #[.val (.ref r0), .val (.long q1), .second, .val (.int p2)] [])) t → Steps p.tables e below (s₁.setTop (entryFrame m #[(.ref r0), (.long q1), (.int p2)] 4)) t := fun t k => castTop (ef20 m r0 q1 p2) k
  obtain ⟨T79, X79, e79, st79⟩ := initO X0 hx hZ hown (hw _ (List.mem_of_getElem? (i := 115) rfl)) (hw _ (List.mem_of_getElem? (i := 16) rfl)) (hw _ (List.mem_of_getElem? (i := 17) rfl)) e0 (g := (mkF m 1 #[.val (.ref r0), .val (.long q1), .second, .val (.int p2)] [(.ref r0)])) rfl (by rw [hml]; rfl) rfl (hb hby d20_1) (by decide) (W := 0) (by show 2 * 0 + _ ≤ _; exact Nat.le_of_eq rfl) (by decide)
  obtain ⟨T80, h80, X80, e80, W80, st80⟩ := putF X79 hx hZ hown (host := "") (Or.inl (hw _ (List.mem_of_getElem? (i := 116) rfl))) Via.refl e79 F0 E1 (Or.inr ⟨(hw _ (List.mem_of_getElem? (i := 117) rfl)), rfl, hnm⟩) (hw _ (List.mem_of_getElem? (i := 110) rfl)) (ty := .long) (by decide) rfl rfl (g := (mkF m 6 #[.val (.ref r0), .val (.long q1), .second, .val (.int p2)] [(.long q1), (.ref r0)])) rfl rfl (hb hby d20_6)
  have K81 : Keep h0 h80 [r0] := (Keep.refl h0 [r0]).wr W80 (Or.inl (List.mem_of_getElem? (i := 0) rfl))
  have c82 : Fld Z h80 r0 "java/time/Duration" "seconds" "J" (.long q1) := F0.same W80
  have N83 := Fr.snoc X80 N0 g1
  have c84 : Exa Z h80 r0 "java/time/Duration" := (E1.wr W80)
  have c85 : Fld Z h80 r0 "java/time/Duration" "nanos" "I" (.int (0 : Int32)) := (F1.other W80 (Or.inr (slot_ne (Or.inr (hw _ (List.mem_of_getElem? (i := 119) rfl))) (Or.inr (hw _ (List.mem_of_getElem? (i := 117) rfl))) (by decide) (t := .int) (t' := .long) (by decide) (by decide))))
  obtain ⟨T86, h86, X86, e86, W86, st86⟩ := putF X80 hx hZ hown (host := "") (Or.inl (hw _ (List.mem_of_getElem? (i := 118) rfl))) Via.refl e80 c85 c84 (Or.inr ⟨(hw _ (List.mem_of_getElem? (i := 119) rfl)), rfl, hnm⟩) (hw _ (List.mem_of_getElem? (i := 110) rfl)) (ty := .int) (by decide) rfl rfl (g := (mkF m 11 #[.val (.ref r0), .val (.long q1), .second, .val (.int p2)] [(.int p2), (.ref r0)])) rfl rfl (hb hby d20_11)
  have K87 : Keep h0 h86 [r0] := K81.wr W86 (Or.inl (List.mem_of_getElem? (i := 0) rfl))
  have c88 : Fld Z h86 r0 "java/time/Duration" "nanos" "I" (.int p2) := c85.same W86
  have N89 := Fr.snoc X86 N83 g1
  obtain ⟨fs, hrT, hrunT, hendT, hWT, hsameT⟩ := X86.leave (hlocks := BodyLoose.notSynchronized Bd) (v := none) (fun _ => rfl)
  refine ⟨_, _, pre0 _ ?_, hrunT, hendT, _, _, rfl, ?_, ⟨_, rfl⟩, hWT, hsameT.mono (by decide) (by decide)⟩
  · show Steps p.tables e below (s₁.setTop (mkF m 0 #[.val (.ref r0), .val (.long q1), .second, .val (.int p2)] [])) _
    refine XS.aloadN X0.here hx rfl (hb hby d20_0) rfl rfl ?_
    show Steps p.tables e below (s₁.setTop (mkF m 1 #[.val (.ref r0), .val (.long q1), .second, .val (.int p2)] [(.ref r0)])) _
    refine st79 _ ?_
    show Steps p.tables e below (T79.setTop (mkF m 4 #[.val (.ref r0), .val (.long q1), .second, .val (.int p2)] [])) _
    refine XS.aloadN X79.here hx rfl (hb hby d20_4) rfl rfl ?_
    show Steps p.tables e below (T79.setTop (mkF m 5 #[.val (.ref r0), .val (.long q1), .second, .val (.int p2)] [(.ref r0)])) _
    refine XS.lloadN X79.here hx rfl (hb hby d20_5) rfl ?_
    show Steps p.tables e below (T79.setTop (mkF m 6 #[.val (.ref r0), .val (.long q1), .second, .val (.int p2)] [(.long q1), (.ref r0)])) _
    refine st80 _ ?_
    show Steps p.tables e below (T80.setTop (mkF m 9 #[.val (.ref r0), .val (.long q1), .second, .val (.int p2)] [])) _
    refine XS.aloadN X80.here hx rfl (hb hby d20_9) rfl rfl ?_
    show Steps p.tables e below (T80.setTop (mkF m 10 #[.val (.ref r0), .val (.long q1), .second, .val (.int p2)] [(.ref r0)])) _
    refine XS.iloadN X80.here hx rfl (hb hby d20_10) rfl ?_
    show Steps p.tables e below (T80.setTop (mkF m 11 #[.val (.ref r0), .val (.long q1), .second, .val (.int p2)] [(.int p2), (.ref r0)])) _
    refine st86 _ ?_
    show Steps p.tables e below (T86.setTop (mkF m 14 #[.val (.ref r0), .val (.long q1), .second, .val (.int p2)] [])) _
    exact X86.returnOut hx Bd.returns (hb hby d20_14) hrT
  · show Q20 Z r0 q1 p2 h0 n0 _ T86.heap _
    rw [e86]
    have c90 : Fld Z h86 r0 "java/time/Duration" "seconds" "J" (.long q1) := (c82.other W86 (Or.inr (slot_ne (Or.inr (hw _ (List.mem_of_getElem? (i := 117) rfl))) (Or.inr (hw _ (List.mem_of_getElem? (i := 119) rfl))) (by decide) (t := .long) (t' := .int) (by decide) (by decide))))
    exact ⟨rfl, N89, K87, c90, c88⟩
theorem d19_0 : decode jdk_2316_method_16_code 0 = .ok (.lload_n 0, 1) := by decide +kernel
theorem d19_1 : decode jdk_2316_method_16_code 1 = .ok (.iload_n 2, 1) := by decide +kernel
theorem d19_2 : decode jdk_2316_method_16_code 2 = .ok (.i2l, 1) := by decide +kernel
theorem d19_3 : decode jdk_2316_method_16_code 3 = .ok (.lor, 1) := by decide +kernel
theorem d19_4 : decode jdk_2316_method_16_code 4 = .ok (.lconst 0, 1) := by decide +kernel
theorem d19_5 : decode jdk_2316_method_16_code 5 = .ok (.lcmp, 1) := by decide +kernel
theorem d19_6 : decode jdk_2316_method_16_code 6 = .ok (.ifCond .ne 7, 3) := by decide +kernel
theorem d19_13 : decode jdk_2316_method_16_code 13 = .ok (.new 11, 3) := by decide +kernel
theorem d19_16 : decode jdk_2316_method_16_code 16 = .ok (.dup, 1) := by decide +kernel
theorem d19_17 : decode jdk_2316_method_16_code 17 = .ok (.lload_n 0, 1) := by decide +kernel
theorem d19_18 : decode jdk_2316_method_16_code 18 = .ok (.iload_n 2, 1) := by decide +kernel
theorem pd__JI_V : parseMethodDescriptor "(JI)V" = some ⟨[.long, .int], none⟩ := by decide +kernel
theorem d19_19 : decode jdk_2316_method_16_code 19 = .ok (.invokespecial 215, 3) := by decide +kernel
theorem d19_22 : decode jdk_2316_method_16_code 22 = .ok (.areturn, 1) := by decide +kernel
theorem ef19 (m : MethodId) (x0 : Int64) (x1 : Int32) : entryFrame m #[(.long x0), (.int x1)] 3 = mkF m 0 #[.val (.long x0), .second, .val (.int x1)] [] := by first | (simp [entryFrame, mkF, argsToLocals, Value.category]; done) | rfl
def Q19 (Z : State) (q0 : Int64) (p1 : Int32) (h0 : Heap) (n0 : Nat) (v : Option Value) (h : Heap) (L : List Loc) : Prop := ∃ bb : Addr, v = some (.ref bb) ∧ Fr n0 L ∧ Keep h0 h [] ∧ h0.size ≤ bb ∧ Exa Z h bb "java/time/Duration" ∧ Fld Z h bb "java/time/Duration" "seconds" "J" (.long q0) ∧ Fld Z h bb "java/time/Duration" "nanos" "I" (.int p1)
set_option maxRecDepth 65536 in
set_option maxHeartbeats 40000000 in
theorem rm19 (l : Launch) (Z : State) (a0 : Array Value) (hw : ∀ d ∈ tables_1, d.before a0 Z = true) (ws : List Jvm.Cond) (q0 : Int64) (p1 : Int32) (h0 : Heap) (n0 : Nat) (Z0 : n0 ≤ h0.size) (hn : ¬ (q0 ||| (p1.toInt64)) = (0 : Int64)) :
    MetFree l (⟨"java/time/Duration", "create", "(JI)Ljava/time/Duration;"⟩ : MethodName) (head1 (Jvm.Cond.code (⟨"java/time/Duration", "create", "(JI)Ljava/time/Duration;"⟩ : MethodName) jdk_2316_method_16_code 3 (some (.object "java/time/Duration")) :: ws) ({ frames := 2, cells := 1, slots := 2, locals := 28 } : Room)) (fun a U => a = #[(.long q0), (.int p1)] ∧ Z.Warmed39 U.vm ∧ U.heap = h0) (fun _ _ _ _ _ => True) (fun _ U o U' => ∃ v L, o = .returned v ∧ Q19 Z q0 p1 h0 n0 v U'.heap L ∧ FrameEnd U o U' L ({ frames := 2, cells := 1, slots := 2, locals := 28 } : Room).cells ({ frames := 2, cells := 1, slots := 2, locals := 28 } : Room).slots) := by
  refine MetFree.of_bodySF (plainFor_of_name pn_Duration) hisR ?_
  intro p e s m args below meth c s₁ Bd hml0 hP hK
  obtain ⟨rfl, hZ, hh⟩ := hP
  have hx := Bd.exec
  have hby := Bd.bytes
  have hml : c.maxLocals = 3 := hml0
  have hown : s.vm.findClass "java/time/Duration" = some m.cls := findClass_of_methodNamed Bd.named
  have hnm := (name_of_methodNamed Bd.named Bd.method).1
  have X0 : Stand p l e ({ frames := 2, cells := 1, slots := 2, locals := 28 } : Room) s m #[(.long q0), (.int p1)] below meth c s₁ [] 0 0 := Stand.of_body Bd
  have e0 : s₁.heap = h0 := by rw [← hh, Bd.state]; rfl
  have N0 := Fr.nil n0
  have pre0 : ∀ t, Steps p.tables e below (s₁.setTop (mkF m 0 #[.val (.long q0), .second, .val (.int p1)] [])) t → Steps p.tables e below (s₁.setTop (entryFrame m #[(.long q0), (.int p1)] 3)) t := fun t k => castTop (ef19 m q0 p1) k
  obtain ⟨T91, h91, X91, e91, E91, A91, D91, -, st91⟩ := newO X0 hx hZ hown (hw _ (List.mem_of_getElem? (i := 109) rfl)) (hw _ (List.mem_of_getElem? (i := 110) rfl)) (hw _ (List.mem_of_getElem? (i := 67) rfl)) e0 (g := (mkF m 13 #[.val (.long q0), .second, .val (.int p1)] [])) rfl (hb hby d19_13) (by decide) (by decide)
  obtain ⟨b91, g91⟩ : ∃ z, z = h0.size := ⟨_, rfl⟩
  rw [← g91] at A91 D91 st91
  have ge_b91 : n0 ≤ b91 := Nat.le_trans Z0 (Nat.le_of_eq g91.symm)
  have sz_b91 : h0.size ≤ b91 := Nat.le_of_eq g91.symm
  have K92 : Keep h0 h91 [] := (Keep.refl h0 []).ext E91
  have F93 : Fld Z h91 b91 "java/time/Duration" "seconds" "J" (.long (0 : Int64)) := D91 (Or.inr (hw _ (List.mem_of_getElem? (i := 117) rfl))) (ty := .long) (by decide)
  have F94 : Fld Z h91 b91 "java/time/Duration" "nanos" "I" (.int (0 : Int32)) := D91 (Or.inr (hw _ (List.mem_of_getElem? (i := 119) rfl))) (ty := .int) (by decide)
  obtain ⟨_, _, ⟨T95, L95, k95, n95⟩, -, X95, ⟨Lc95, hQ95, l95, y95, z95⟩, st95⟩ := X91.specialBack hx (y := (⟨"java/time/Duration", "<init>", "(JI)V"⟩ : MethodName)) rfl hown (mvT hZ (hw _ (List.mem_of_getElem? (i := 111) rfl))) (mvT hZ (hw _ (List.mem_of_getElem? (i := 112) rfl))) (mvT hZ (hw _ (List.mem_of_getElem? (i := 114) rfl))) (by decide) (backOf (W := 1) (rm20 l Z a0 hw [] b91 q0 p1 h91 n0 (Nat.le_trans Z0 K92.1) F93 F94 A91 ge_b91) hZ (hw _ (List.mem_of_getElem? (i := 114) rfl)) (hw _ (List.mem_of_getElem? (i := 67) rfl)) (by decide) (by decide)) (g := (mkF m 19 #[.val (.long q0), .second, .val (.int p1)] [(.int p1), (.long q0), (.ref b91), (.ref b91)])) rfl (by rw [hml]; rfl) (Steps.refl _) (a := b91) (argsL := [(.long q0), (.int p1)]) (rest := [(.ref b91)]) (lenOf pd__JI_V rfl) rfl (by show 2 * 0 + _ ≤ _; exact Nat.le_of_eq rfl) (hb hby d19_19) (fun _ _ => ⟨rfl, e91, (by decide : 1 + 0 ≤ _), (by decide : 2 + 0 ≤ _)⟩)
  dsimp only [Pt.U, Pt.locs, Pt.cells, Pt.slots] at X95 l95 y95 z95 st95 hQ95
  subst l95 y95 z95
  obtain ⟨rfl, Nq95, Kq95, f95_0, f95_1⟩ := hQ95
  have K96 : Keep h0 T95.heap [] := K92.trans Kq95 (fun x hx => by cases List.mem_singleton.mp hx; exact Or.inr sz_b91)
  have N95 := Fr.app N0 Nq95
  obtain ⟨fs, hrT, hrunT, hendT, hWT, hsameT⟩ := X95.leave (hlocks := BodyLoose.notSynchronized Bd) (v := some (.ref b91)) (fun h => by rw [Bd.returns] at h; cases h)
  refine ⟨_, _, pre0 _ ?_, hrunT, hendT, _, _, rfl, ?_, ⟨_, rfl⟩, hWT, hsameT.mono (by decide) (by decide)⟩
  · show Steps p.tables e below (s₁.setTop (mkF m 0 #[.val (.long q0), .second, .val (.int p1)] [])) _
    refine XS.lloadN X0.here hx rfl (hb hby d19_0) rfl ?_
    show Steps p.tables e below (s₁.setTop (mkF m 1 #[.val (.long q0), .second, .val (.int p1)] [(.long q0)])) _
    refine XS.iloadN X0.here hx rfl (hb hby d19_1) rfl ?_
    show Steps p.tables e below (s₁.setTop (mkF m 2 #[.val (.long q0), .second, .val (.int p1)] [(.int p1), (.long q0)])) _
    refine XS.i2l X0.here hx rfl (hb hby d19_2) rfl ?_
    show Steps p.tables e below (s₁.setTop (mkF m 3 #[.val (.long q0), .second, .val (.int p1)] [(.long (p1.toInt64)), (.long q0)])) _
    refine XS.lor X0.here hx rfl (hb hby d19_3) rfl ?_
    show Steps p.tables e below (s₁.setTop (mkF m 4 #[.val (.long q0), .second, .val (.int p1)] [(.long (q0 ||| (p1.toInt64)))])) _
    refine XS.lconst X0.here hx rfl (hb hby d19_4) ?_
    show Steps p.tables e below (s₁.setTop (mkF m 5 #[.val (.long q0), .second, .val (.int p1)] [(.long (0 : Int64)), (.long (q0 ||| (p1.toInt64)))])) _
    refine XT.lcmp X0.here hx rfl (hb hby d19_5) rfl ?_
    show Steps p.tables e below (s₁.setTop (mkF m 6 #[.val (.long q0), .second, .val (.int p1)] [(.int (XT.cmpL (q0 ||| (p1.toInt64)) (0 : Int64)))])) _
    refine XS.ifYes X0.here hx rfl (pc0 := 6) (pc' := 13) rfl (hb hby d19_6) rfl (XT.ll_ne_t hn) (by decide) (by decide) ?_
    show Steps p.tables e below (s₁.setTop (mkF m 13 #[.val (.long q0), .second, .val (.int p1)] [])) _
    refine st91 _ ?_
    show Steps p.tables e below (T91.setTop (mkF m 16 #[.val (.long q0), .second, .val (.int p1)] [(.ref b91)])) _
    refine XS.dup X91.here hx rfl (hb hby d19_16) rfl rfl ?_
    show Steps p.tables e below (T91.setTop (mkF m 17 #[.val (.long q0), .second, .val (.int p1)] [(.ref b91), (.ref b91)])) _
    refine XS.lloadN X91.here hx rfl (hb hby d19_17) rfl ?_
    show Steps p.tables e below (T91.setTop (mkF m 18 #[.val (.long q0), .second, .val (.int p1)] [(.long q0), (.ref b91), (.ref b91)])) _
    refine XS.iloadN X91.here hx rfl (hb hby d19_18) rfl ?_
    show Steps p.tables e below (T91.setTop (mkF m 19 #[.val (.long q0), .second, .val (.int p1)] [(.int p1), (.long q0), (.ref b91), (.ref b91)])) _
    refine st95.trans ?_
    show Steps p.tables e below (T95.setTop (mkF m 22 #[.val (.long q0), .second, .val (.int p1)] [(.ref b91)])) _
    exact retOut X95 hx Bd.returns rfl (by right; right; right; right; exact ⟨rfl, rfl, rfl⟩) (hb hby d19_22) hrT
  · show Q19 Z q0 p1 h0 n0 _ T95.heap _
    have c97 : Exa Z T95.heap b91 "java/time/Duration" := (A91.keep Kq95)
    exact ⟨b91, rfl, N95, K96, sz_b91, c97, f95_0, f95_1⟩
def f_s (m : Int64) : Int64 := (m / (1000 : Int64))
def f_n (m : Int64) : Int32 := (((m - (m / (1000 : Int64)) * (1000 : Int64)).toInt32) * (1000000 : Int32))
theorem own_ms {m : Int64} (h : 1 ≤ m.toInt) : (m / (1000 : Int64)).toInt = m.toInt / 1000 ∧ ((m - (m / (1000 : Int64)) * (1000 : Int64)).toInt32).toInt = m.toInt % 1000 ∧ (f_n m).toInt = m.toInt % 1000 * 1000000 := by
  have k : (1000 : Int64).toInt = 1000 := rfl
  have b := m.toInt_lt
  have e1 : (m / (1000 : Int64)).toInt = m.toInt / 1000 := by rw [Jvm.Kit.i64_div (by rw [k]; omega), k, Int.tdiv_eq_ediv_of_nonneg (by omega)]
  have e2 : (m - (m / (1000 : Int64)) * (1000 : Int64)).toInt = m.toInt % 1000 := by rw [Jvm.Kit.i64_rem_nonneg (by omega), k]
  have e3 : ((m - (m / (1000 : Int64)) * (1000 : Int64)).toInt32).toInt = m.toInt % 1000 := by rw [Jvm.Kit.i32_of_i64 (by rw [e2]; omega) (by rw [e2]; omega), e2]
  have q : (1000000 : Int32).toInt = 1000000 := rfl
  refine ⟨e1, e3, ?_⟩
  unfold f_n
  rw [Jvm.Kit.i32_mul (by rw [e3, q]; omega) (by rw [e3, q]; omega), e3, q]
theorem own_neg {m : Int64} (h : 1 ≤ m.toInt) : ¬ ((m - (m / (1000 : Int64)) * (1000 : Int64)).toInt32) < 0 := by
  rw [XT.negI32, (own_ms h).2.1]; omega
theorem own_or0 {a b : Int64} (h : (a ||| b) = 0) : a = 0 ∧ b = 0 := by
  have e : (a.toBitVec ||| b.toBitVec) = 0#64 := congrArg Int64.toBitVec h
  have := BitVec.or_eq_zero_iff.mp e
  exact ⟨Int64.toBitVec_inj.mp this.1, Int64.toBitVec_inj.mp this.2⟩
theorem own_cr {m : Int64} (h : 1 ≤ m.toInt) : ¬ ((f_s m) ||| ((f_n m).toInt64)) = (0 : Int64) := fun e => by
  obtain ⟨h1, h2⟩ := own_or0 e
  have a1 := congrArg Int64.toInt h1
  have a2 := congrArg Int64.toInt h2
  rw [show (0 : Int64).toInt = 0 from rfl] at a1 a2
  unfold f_s at a1
  rw [(own_ms h).1] at a1
  rw [Jvm.Kit.i64_of_i32, (own_ms h).2.2] at a2
  omega
theorem d18_0 : decode jdk_2316_method_6_code 0 = .ok (.lload_n 0, 1) := by decide +kernel
theorem d18_1 : decode jdk_2316_method_6_code 1 = .ok (.ldc2_w 28, 3) := by decide +kernel
theorem d18_4 : decode jdk_2316_method_6_code 4 = .ok (.ldiv, 1) := by decide +kernel
theorem d18_5 : decode jdk_2316_method_6_code 5 = .ok (.lstore_n 2, 1) := by decide +kernel
theorem d18_6 : decode jdk_2316_method_6_code 6 = .ok (.lload_n 0, 1) := by decide +kernel
theorem d18_7 : decode jdk_2316_method_6_code 7 = .ok (.ldc2_w 28, 3) := by decide +kernel
theorem d18_10 : decode jdk_2316_method_6_code 10 = .ok (.lrem, 1) := by decide +kernel
theorem d18_11 : decode jdk_2316_method_6_code 11 = .ok (.l2i, 1) := by decide +kernel
theorem d18_12 : decode jdk_2316_method_6_code 12 = .ok (.istore 4, 2) := by decide +kernel
theorem d18_14 : decode jdk_2316_method_6_code 14 = .ok (.iload 4, 2) := by decide +kernel
theorem d18_16 : decode jdk_2316_method_6_code 16 = .ok (.ifCond .ge 13, 3) := by decide +kernel
theorem d18_29 : decode jdk_2316_method_6_code 29 = .ok (.lload_n 2, 1) := by decide +kernel
theorem d18_30 : decode jdk_2316_method_6_code 30 = .ok (.iload 4, 2) := by decide +kernel
theorem d18_32 : decode jdk_2316_method_6_code 32 = .ok (.ldc 30, 2) := by decide +kernel
theorem d18_34 : decode jdk_2316_method_6_code 34 = .ok (.imul, 1) := by decide +kernel
theorem pd__JI_Ljava_time_Duration_ : parseMethodDescriptor "(JI)Ljava/time/Duration;" = some ⟨[.long, .int], some (.object "java/time/Duration")⟩ := by decide +kernel
theorem d18_35 : decode jdk_2316_method_6_code 35 = .ok (.invokestatic 10, 3) := by decide +kernel
theorem d18_38 : decode jdk_2316_method_6_code 38 = .ok (.areturn, 1) := by decide +kernel
theorem ef18 (m : MethodId) (x0 : Int64) : entryFrame m #[(.long x0)] 5 = mkF m 0 #[.val (.long x0), .second, .unset, .unset, .unset] [] := by first | (simp [entryFrame, mkF, argsToLocals, Value.category]; done) | rfl
def Q18 (Z : State) (q0 : Int64) (h0 : Heap) (n0 : Nat) (v : Option Value) (h : Heap) (L : List Loc) : Prop := ∃ bb : Addr, v = some (.ref bb) ∧ Fr n0 L ∧ Keep h0 h [] ∧ h0.size ≤ bb ∧ Exa Z h bb "java/time/Duration" ∧ Fld Z h bb "java/time/Duration" "seconds" "J" (.long (f_s q0)) ∧ Fld Z h bb "java/time/Duration" "nanos" "I" (.int (f_n q0))
set_option maxRecDepth 65536 in
set_option maxHeartbeats 40000000 in
theorem rm18 (l : Launch) (Z : State) (a0 : Array Value) (hw : ∀ d ∈ tables_1, d.before a0 Z = true) (ws : List Jvm.Cond) (q0 : Int64) (h0 : Heap) (n0 : Nat) (Z0 : n0 ≤ h0.size) (hm : 1 ≤ q0.toInt) :
    MetFree l (⟨"java/time/Duration", "ofMillis", "(J)Ljava/time/Duration;"⟩ : MethodName) (head1 (Jvm.Cond.code (⟨"java/time/Duration", "ofMillis", "(J)Ljava/time/Duration;"⟩ : MethodName) jdk_2316_method_6_code 5 (some (.object "java/time/Duration")) :: ws) ({ frames := 3, cells := 1, slots := 2, locals := 42 } : Room)) (fun a U => a = #[(.long q0)] ∧ Z.Warmed39 U.vm ∧ U.heap = h0) (fun _ _ _ _ _ => True) (fun _ U o U' => ∃ v L, o = .returned v ∧ Q18 Z q0 h0 n0 v U'.heap L ∧ FrameEnd U o U' L ({ frames := 3, cells := 1, slots := 2, locals := 42 } : Room).cells ({ frames := 3, cells := 1, slots := 2, locals := 42 } : Room).slots) := by
  refine MetFree.of_bodySF (plainFor_of_name pn_Duration) hisR ?_
  intro p e s m args below meth c s₁ Bd hml0 hP hK
  obtain ⟨rfl, hZ, hh⟩ := hP
  have hx := Bd.exec
  have hby := Bd.bytes
  have hml : c.maxLocals = 5 := hml0
  have hown : s.vm.findClass "java/time/Duration" = some m.cls := findClass_of_methodNamed Bd.named
  have hnm := (name_of_methodNamed Bd.named Bd.method).1
  have X0 : Stand p l e ({ frames := 3, cells := 1, slots := 2, locals := 42 } : Room) s m #[(.long q0)] below meth c s₁ [] 0 0 := Stand.of_body Bd
  have e0 : s₁.heap = h0 := by rw [← hh, Bd.state]; rfl
  have N0 := Fr.nil n0
  have pre0 : ∀ t, Steps p.tables e below (s₁.setTop (mkF m 0 #[.val (.long q0), .second, .unset, .unset, .unset] [])) t → Steps p.tables e below (s₁.setTop (entryFrame m #[(.long q0)] 5)) t := fun t k => castTop (ef18 m q0) k
  obtain ⟨_, _, ⟨T98, L98, k98, n98⟩, -, X98, ⟨Lc98, hQ98, l98, y98, z98⟩, st98⟩ := Jvm.LawKit.callS X0 hx (y := (⟨"java/time/Duration", "create", "(JI)Ljava/time/Duration;"⟩ : MethodName)) hown (mvT hZ (hw _ (List.mem_of_getElem? (i := 106) rfl))) (mvT hZ (hw _ (List.mem_of_getElem? (i := 107) rfl))) (mvT hZ (hw _ (List.mem_of_getElem? (i := 67) rfl))) (mvT hZ (hw _ (List.mem_of_getElem? (i := 108) rfl))) (by decide) (backOf (W := 0) (rm19 l Z a0 hw [] (f_s q0) (f_n q0) h0 n0 Z0 (own_cr hm)) hZ (hw _ (List.mem_of_getElem? (i := 108) rfl)) (hw _ (List.mem_of_getElem? (i := 67) rfl)) (by decide) (by decide)) (g := (mkF m 35 #[.val (.long q0), .second, .val (.long (q0 / (1000 : Int64))), .second, .val (.int ((q0 - (q0 / (1000 : Int64)) * (1000 : Int64)).toInt32))] [(.int (f_n q0)), (.long (f_s q0))])) rfl (by rw [hml]; rfl) (argsL := [(.long (f_s q0)), (.int (f_n q0))]) (rest := []) (lenOf pd__JI_Ljava_time_Duration_ rfl) rfl (by show 2 * 0 + _ ≤ _; exact Nat.le_of_eq rfl) (hb hby d18_35) (fun _ _ => ⟨rfl, e0, (by decide : 0 + 1 ≤ _), (by decide : 0 + 2 ≤ _)⟩)
  dsimp only [Pt.U, Pt.locs, Pt.cells, Pt.slots] at X98 l98 y98 z98 st98 hQ98
  subst l98 y98 z98
  obtain ⟨bb_98, rfl, Nq98, Kq98, f98_0, f98_1, f98_2, f98_3⟩ := hQ98
  have K99 : Keep h0 T98.heap [] := Kq98
  have N98 := Fr.app N0 Nq98
  have ge_bb_98 : n0 ≤ bb_98 := Nat.le_trans Z0 f98_0
  have sz_bb_98 : h0.size ≤ bb_98 := Nat.le_trans (Nat.le_refl _) f98_0
  obtain ⟨fs, hrT, hrunT, hendT, hWT, hsameT⟩ := X98.leave (hlocks := BodyLoose.notSynchronized Bd) (v := some (.ref bb_98)) (fun h => by rw [Bd.returns] at h; cases h)
  refine ⟨_, _, pre0 _ ?_, hrunT, hendT, _, _, rfl, ?_, ⟨_, rfl⟩, hWT, hsameT.mono (by decide) (by decide)⟩
  · show Steps p.tables e below (s₁.setTop (mkF m 0 #[.val (.long q0), .second, .unset, .unset, .unset] [])) _
    refine XS.lloadN X0.here hx rfl (hb hby d18_0) rfl ?_
    show Steps p.tables e below (s₁.setTop (mkF m 1 #[.val (.long q0), .second, .unset, .unset, .unset] [(.long q0)])) _
    refine X0.ldc2Long hx hown (mvT hZ (hw _ (List.mem_of_getElem? (i := 104) rfl))) (g := (mkF m 1 #[.val (.long q0), .second, .unset, .unset, .unset] [(.long q0)])) rfl (hb hby d18_1) _ ?_
    show Steps p.tables e below (s₁.setTop (mkF m 4 #[.val (.long q0), .second, .unset, .unset, .unset] [(.long (1000 : Int64)), (.long q0)])) _
    refine XS.ldiv X0.here hx rfl (hb hby d18_4) rfl (by decide) ?_
    show Steps p.tables e below (s₁.setTop (mkF m 5 #[.val (.long q0), .second, .unset, .unset, .unset] [(.long (q0 / (1000 : Int64)))])) _
    refine XS.lstoreN X0.here hx rfl (hb hby d18_5) rfl (l' := #[.val (.long q0), .second, .val (.long (q0 / (1000 : Int64))), .second, .unset]) rfl ?_
    show Steps p.tables e below (s₁.setTop (mkF m 6 #[.val (.long q0), .second, .val (.long (q0 / (1000 : Int64))), .second, .unset] [])) _
    refine XS.lloadN X0.here hx rfl (hb hby d18_6) rfl ?_
    show Steps p.tables e below (s₁.setTop (mkF m 7 #[.val (.long q0), .second, .val (.long (q0 / (1000 : Int64))), .second, .unset] [(.long q0)])) _
    refine X0.ldc2Long hx hown (mvT hZ (hw _ (List.mem_of_getElem? (i := 104) rfl))) (g := (mkF m 7 #[.val (.long q0), .second, .val (.long (q0 / (1000 : Int64))), .second, .unset] [(.long q0)])) rfl (hb hby d18_7) _ ?_
    show Steps p.tables e below (s₁.setTop (mkF m 10 #[.val (.long q0), .second, .val (.long (q0 / (1000 : Int64))), .second, .unset] [(.long (1000 : Int64)), (.long q0)])) _
    refine XS.lrem X0.here hx rfl (hb hby d18_10) rfl (by decide) ?_
    show Steps p.tables e below (s₁.setTop (mkF m 11 #[.val (.long q0), .second, .val (.long (q0 / (1000 : Int64))), .second, .unset] [(.long (q0 - (q0 / (1000 : Int64)) * (1000 : Int64)))])) _
    refine XS.l2i X0.here hx rfl (hb hby d18_11) rfl ?_
    show Steps p.tables e below (s₁.setTop (mkF m 12 #[.val (.long q0), .second, .val (.long (q0 / (1000 : Int64))), .second, .unset] [(.int ((q0 - (q0 / (1000 : Int64)) * (1000 : Int64)).toInt32))])) _
    refine XS.istore X0.here hx rfl (hb hby d18_12) rfl (l' := #[.val (.long q0), .second, .val (.long (q0 / (1000 : Int64))), .second, .val (.int ((q0 - (q0 / (1000 : Int64)) * (1000 : Int64)).toInt32))]) rfl ?_
    show Steps p.tables e below (s₁.setTop (mkF m 14 #[.val (.long q0), .second, .val (.long (q0 / (1000 : Int64))), .second, .val (.int ((q0 - (q0 / (1000 : Int64)) * (1000 : Int64)).toInt32))] [])) _
    refine XS.iload X0.here hx rfl (hb hby d18_14) rfl ?_
    show Steps p.tables e below (s₁.setTop (mkF m 16 #[.val (.long q0), .second, .val (.long (q0 / (1000 : Int64))), .second, .val (.int ((q0 - (q0 / (1000 : Int64)) * (1000 : Int64)).toInt32))] [(.int ((q0 - (q0 / (1000 : Int64)) * (1000 : Int64)).toInt32))])) _
    refine XS.ifYes X0.here hx rfl (pc0 := 16) (pc' := 29) rfl (hb hby d18_16) rfl (XT.i0_ge_t (own_neg hm)) (by decide) (by decide) ?_
    show Steps p.tables e below (s₁.setTop (mkF m 29 #[.val (.long q0), .second, .val (.long (q0 / (1000 : Int64))), .second, .val (.int ((q0 - (q0 / (1000 : Int64)) * (1000 : Int64)).toInt32))] [])) _
    refine XS.lloadN X0.here hx rfl (hb hby d18_29) rfl ?_
    show Steps p.tables e below (s₁.setTop (mkF m 30 #[.val (.long q0), .second, .val (.long (q0 / (1000 : Int64))), .second, .val (.int ((q0 - (q0 / (1000 : Int64)) * (1000 : Int64)).toInt32))] [(.long (q0 / (1000 : Int64)))])) _
    refine XS.iload X0.here hx rfl (hb hby d18_30) rfl ?_
    show Steps p.tables e below (s₁.setTop (mkF m 32 #[.val (.long q0), .second, .val (.long (q0 / (1000 : Int64))), .second, .val (.int ((q0 - (q0 / (1000 : Int64)) * (1000 : Int64)).toInt32))] [(.int ((q0 - (q0 / (1000 : Int64)) * (1000 : Int64)).toInt32)), (.long (q0 / (1000 : Int64)))])) _
    refine X0.ldcInt hx hown (mvT hZ (hw _ (List.mem_of_getElem? (i := 105) rfl))) (g := (mkF m 32 #[.val (.long q0), .second, .val (.long (q0 / (1000 : Int64))), .second, .val (.int ((q0 - (q0 / (1000 : Int64)) * (1000 : Int64)).toInt32))] [(.int ((q0 - (q0 / (1000 : Int64)) * (1000 : Int64)).toInt32)), (.long (q0 / (1000 : Int64)))])) rfl (hb hby d18_32) _ ?_
    show Steps p.tables e below (s₁.setTop (mkF m 34 #[.val (.long q0), .second, .val (.long (q0 / (1000 : Int64))), .second, .val (.int ((q0 - (q0 / (1000 : Int64)) * (1000 : Int64)).toInt32))] [(.int (1000000 : Int32)), (.int ((q0 - (q0 / (1000 : Int64)) * (1000 : Int64)).toInt32)), (.long (q0 / (1000 : Int64)))])) _
    refine XS.imul X0.here hx rfl (hb hby d18_34) rfl ?_
    show Steps p.tables e below (s₁.setTop (mkF m 35 #[.val (.long q0), .second, .val (.long (q0 / (1000 : Int64))), .second, .val (.int ((q0 - (q0 / (1000 : Int64)) * (1000 : Int64)).toInt32))] [(.int (f_n q0)), (.long (f_s q0))])) _
    refine st98 _ ?_
    show Steps p.tables e below (T98.setTop (mkF m 38 #[.val (.long q0), .second, .val (.long (q0 / (1000 : Int64))), .second, .val (.int ((q0 - (q0 / (1000 : Int64)) * (1000 : Int64)).toInt32))] [(.ref bb_98)])) _
    exact retOut X98 hx Bd.returns rfl (by right; right; right; right; exact ⟨rfl, rfl, rfl⟩) (hb hby d18_38) hrT
  · show Q18 Z q0 h0 n0 _ T98.heap _
    exact ⟨bb_98, rfl, N98, K99, sz_bb_98, f98_1, f98_2, f98_3⟩
theorem d23_0 : decode jdk_31_method_11_code 0 = .ok (.aload_n 0, 1) := by decide +kernel
theorem d23_1 : decode jdk_31_method_11_code 1 = .ok (.ifnonnull 12, 3) := by decide +kernel
theorem d23_13 : decode jdk_31_method_11_code 13 = .ok (.aload_n 0, 1) := by decide +kernel
theorem d23_14 : decode jdk_31_method_11_code 14 = .ok (.areturn, 1) := by decide +kernel
theorem pn_Objects : plainName "java/util/Objects" = true := by first | (simp [plainName, overriddenIn]; done) | decide +kernel
theorem ef23 (m : MethodId) (x0 : Addr) (x1 : Addr) : entryFrame m #[(.ref x0), (.ref x1)] 2 = mkF m 0 #[.val (.ref x0), .val (.ref x1)] [] := by first | (simp [entryFrame, mkF, argsToLocals, Value.category]; done) | rfl
def Q23 (Z : State) (r0 : Addr) (r1 : Addr) (h0 : Heap) (n0 : Nat) (v : Option Value) (h : Heap) (L : List Loc) : Prop := v = some (.ref r0) ∧ Fr n0 L ∧ h = h0
set_option maxRecDepth 65536 in
set_option maxHeartbeats 40000000 in
theorem rm23 (l : Launch) (Z : State) (a0 : Array Value) (hw : ∀ d ∈ tables_1, d.before a0 Z = true) (ws : List Jvm.Cond) (r0 : Addr) (r1 : Addr) (h0 : Heap) (n0 : Nat) (Z0 : n0 ≤ h0.size) :
    MetFree l (⟨"java/util/Objects", "requireNonNull", "(Ljava/lang/Object;Ljava/lang/String;)Ljava/lang/Object;"⟩ : MethodName) (head1 (Jvm.Cond.code (⟨"java/util/Objects", "requireNonNull", "(Ljava/lang/Object;Ljava/lang/String;)Ljava/lang/Object;"⟩ : MethodName) jdk_31_method_11_code 2 (some (.object "java/lang/Object")) :: ws) ({ frames := 0, cells := 0, slots := 0, locals := 0 } : Room)) (fun a U => a = #[(.ref r0), (.ref r1)] ∧ Z.Warmed39 U.vm ∧ U.heap = h0) (fun _ _ _ _ _ => True) (fun _ U o U' => ∃ v L, o = .returned v ∧ Q23 Z r0 r1 h0 n0 v U'.heap L ∧ FrameEnd U o U' L ({ frames := 0, cells := 0, slots := 0, locals := 0 } : Room).cells ({ frames := 0, cells := 0, slots := 0, locals := 0 } : Room).slots) := by
  refine MetFree.of_bodySF (plainFor_of_name pn_Objects) hisR ?_
  intro p e s m args below meth c s₁ Bd hml0 hP hK
  obtain ⟨rfl, hZ, hh⟩ := hP
  have hx := Bd.exec
  have hby := Bd.bytes
  have hml : c.maxLocals = 2 := hml0
  have hown : s.vm.findClass "java/util/Objects" = some m.cls := findClass_of_methodNamed Bd.named
  have hnm := (name_of_methodNamed Bd.named Bd.method).1
  have X0 : Stand p l e ({ frames := 0, cells := 0, slots := 0, locals := 0 } : Room) s m #[(.ref r0), (.ref r1)] below meth c s₁ [] 0 0 := Stand.of_body Bd
  have e0 : s₁.heap = h0 := by rw [← hh, Bd.state]; rfl
  have N0 := Fr.nil n0
  have pre0 : ∀ t, Steps p.tables e below (s₁.setTop (mkF m 0 #[.val (.ref r0), .val (.ref r1)] [])) t → Steps p.tables e below (s₁.setTop (entryFrame m #[(.ref r0), (.ref r1)] 2)) t := fun t k => castTop (ef23 m r0 r1) k
  obtain ⟨fs, hrT, hrunT, hendT, hWT, hsameT⟩ := X0.leave (hlocks := BodyLoose.notSynchronized Bd) (v := some (.ref r0)) (fun h => by rw [Bd.returns] at h; cases h)
  refine ⟨_, _, pre0 _ ?_, hrunT, hendT, _, _, rfl, ?_, ⟨_, rfl⟩, hWT, hsameT.mono (by decide) (by decide)⟩
  · show Steps p.tables e below (s₁.setTop (mkF m 0 #[.val (.ref r0), .val (.ref r1)] [])) _
    refine XS.aloadN X0.here hx rfl (hb hby d23_0) rfl rfl ?_
    show Steps p.tables e below (s₁.setTop (mkF m 1 #[.val (.ref r0), .val (.ref r1)] [(.ref r0)])) _
    refine XS.ifnonnullYes X0.here hx rfl (pc0 := 1) (pc' := 13) rfl (hb hby d23_1) rfl (by decide) (by decide) ?_
    show Steps p.tables e below (s₁.setTop (mkF m 13 #[.val (.ref r0), .val (.ref r1)] [])) _
    refine XS.aloadN X0.here hx rfl (hb hby d23_13) rfl rfl ?_
    show Steps p.tables e below (s₁.setTop (mkF m 14 #[.val (.ref r0), .val (.ref r1)] [(.ref r0)])) _
    exact retOut X0 hx Bd.returns rfl (by right; right; right; right; exact ⟨rfl, rfl, rfl⟩) (hb hby d23_14) hrT
  · show Q23 Z r0 r1 h0 n0 _ s₁.heap _
    rw [e0]
    exact ⟨rfl, N0, rfl⟩
theorem d24_0 : decode jdk_2316_method_66_code 0 = .ok (.aload_n 0, 1) := by decide +kernel
theorem d24_1 : decode jdk_2316_method_66_code 1 = .ok (.getfield 221, 3) := by decide +kernel
theorem d24_4 : decode jdk_2316_method_66_code 4 = .ok (.aload_n 1, 1) := by decide +kernel
theorem d24_5 : decode jdk_2316_method_66_code 5 = .ok (.getfield 221, 3) := by decide +kernel
theorem d24_8 : decode jdk_2316_method_66_code 8 = .ok (.invokestatic 416, 3) := by decide +kernel
theorem d24_11 : decode jdk_2316_method_66_code 11 = .ok (.istore_n 2, 1) := by decide +kernel
theorem d24_12 : decode jdk_2316_method_66_code 12 = .ok (.iload_n 2, 1) := by decide +kernel
theorem d24_13 : decode jdk_2316_method_66_code 13 = .ok (.ifCond .eq 5, 3) := by decide +kernel
theorem d24_18 : decode jdk_2316_method_66_code 18 = .ok (.aload_n 0, 1) := by decide +kernel
theorem d24_19 : decode jdk_2316_method_66_code 19 = .ok (.getfield 224, 3) := by decide +kernel
theorem d24_22 : decode jdk_2316_method_66_code 22 = .ok (.aload_n 1, 1) := by decide +kernel
theorem d24_23 : decode jdk_2316_method_66_code 23 = .ok (.getfield 224, 3) := by decide +kernel
theorem d24_26 : decode jdk_2316_method_66_code 26 = .ok (.isub, 1) := by decide +kernel
theorem d24_27 : decode jdk_2316_method_66_code 27 = .ok (.ireturn, 1) := by decide +kernel
theorem d24_16 : decode jdk_2316_method_66_code 16 = .ok (.iload_n 2, 1) := by decide +kernel
theorem d24_17 : decode jdk_2316_method_66_code 17 = .ok (.ireturn, 1) := by decide +kernel
def f_ct (us : Int64) (un : Int32) (vs : Int64) (vn : Int32) : Int32 := (if (f_cmp us vs) = 0 then (un - vn) else (f_cmp us vs))
theorem ef24 (m : MethodId) (x0 : Addr) (x1 : Addr) : entryFrame m #[(.ref x0), (.ref x1)] 3 = mkF m 0 #[.val (.ref x0), .val (.ref x1), .unset] [] := by first | (simp [entryFrame, mkF, argsToLocals, Value.category]; done) | rfl
def Q24 (Z : State) (r0 : Addr) (r1 : Addr) (us : Int64) (un : Int32) (vs : Int64) (vn : Int32) (h0 : Heap) (n0 : Nat) (v : Option Value) (h : Heap) (L : List Loc) : Prop := v = some (.int (f_ct us un vs vn)) ∧ Fr n0 L ∧ h = h0
set_option maxRecDepth 65536 in
set_option maxHeartbeats 40000000 in
theorem rm24 (l : Launch) (Z : State) (a0 : Array Value) (hw : ∀ d ∈ tables_1, d.before a0 Z = true) (ws : List Jvm.Cond) (r0 : Addr) (r1 : Addr) (us : Int64) (un : Int32) (vs : Int64) (vn : Int32) (h0 : Heap) (n0 : Nat) (Z0 : n0 ≤ h0.size) (F0 : Fld Z h0 r0 "java/time/Duration" "seconds" "J" (.long us)) (F1 : Fld Z h0 r0 "java/time/Duration" "nanos" "I" (.int un)) (G0 : Fld Z h0 r1 "java/time/Duration" "seconds" "J" (.long vs)) (G1 : Fld Z h0 r1 "java/time/Duration" "nanos" "I" (.int vn)) :
    MetFree l (⟨"java/time/Duration", "compareTo", "(Ljava/time/Duration;)I"⟩ : MethodName) (head1 (Jvm.Cond.code (⟨"java/time/Duration", "compareTo", "(Ljava/time/Duration;)I"⟩ : MethodName) jdk_2316_method_66_code 3 (some .int) :: ws) ({ frames := 1, cells := 0, slots := 0, locals := 15 } : Room)) (fun a U => a = #[(.ref r0), (.ref r1)] ∧ Z.Warmed39 U.vm ∧ U.heap = h0) (fun _ _ _ _ _ => True) (fun _ U o U' => ∃ v L, o = .returned v ∧ Q24 Z r0 r1 us un vs vn h0 n0 v U'.heap L ∧ FrameEnd U o U' L ({ frames := 1, cells := 0, slots := 0, locals := 15 } : Room).cells ({ frames := 1, cells := 0, slots := 0, locals := 15 } : Room).slots) := by
  refine MetFree.of_bodySF (plainFor_of_name pn_Duration) hisR ?_
  intro p e s m args below meth c s₁ Bd hml0 hP hK
  obtain ⟨rfl, hZ, hh⟩ := hP
  have hx := Bd.exec
  have hby := Bd.bytes
  have hml : c.maxLocals = 3 := hml0
  have hown : s.vm.findClass "java/time/Duration" = some m.cls := findClass_of_methodNamed Bd.named
  have hnm := (name_of_methodNamed Bd.named Bd.method).1
  have X0 : Stand p l e ({ frames := 1, cells := 0, slots := 0, locals := 15 } : Room) s m #[(.ref r0), (.ref r1)] below meth c s₁ [] 0 0 := Stand.of_body Bd
  have e0 : s₁.heap = h0 := by rw [← hh, Bd.state]; rfl
  have N0 := Fr.nil n0
  have pre0 : ∀ t, Steps p.tables e below (s₁.setTop (mkF m 0 #[.val (.ref r0), .val (.ref r1), .unset] [])) t → Steps p.tables e below (s₁.setTop (entryFrame m #[(.ref r0), (.ref r1)] 3)) t := fun t k => castTop (ef24 m r0 r1) k
  obtain ⟨T100, X100, e100, st100⟩ := getF X0 hx hZ hown (host := "") (Or.inl (hw _ (List.mem_of_getElem? (i := 116) rfl))) Via.refl e0 F0 (g := (mkF m 1 #[.val (.ref r0), .val (.ref r1), .unset] [(.ref r0)])) rfl rfl (hb hby d24_1)
  obtain ⟨T101, X101, e101, st101⟩ := getF X100 hx hZ hown (host := "") (Or.inl (hw _ (List.mem_of_getElem? (i := 116) rfl))) Via.refl e100 G0 (g := (mkF m 5 #[.val (.ref r0), .val (.ref r1), .unset] [(.ref r1), (.long us)])) rfl rfl (hb hby d24_5)
  obtain ⟨_, _, ⟨T102, L102, k102, n102⟩, -, X102, ⟨Lc102, hQ102, l102, y102, z102⟩, st102⟩ := Jvm.LawKit.callS X101 hx (y := (⟨"java/lang/Long", "compare", "(JJ)I"⟩ : MethodName)) hown (mvT hZ (hw _ (List.mem_of_getElem? (i := 145) rfl))) (mvT hZ (hw _ (List.mem_of_getElem? (i := 58) rfl))) (mvT hZ (hw _ (List.mem_of_getElem? (i := 50) rfl))) (mvT hZ (hw _ (List.mem_of_getElem? (i := 59) rfl))) (by decide) (backOf (W := 0) (rm10 l Z a0 hw [] us vs h0 n0 Z0 ) hZ (hw _ (List.mem_of_getElem? (i := 59) rfl)) (hw _ (List.mem_of_getElem? (i := 50) rfl)) (by decide) (by decide)) (g := (mkF m 8 #[.val (.ref r0), .val (.ref r1), .unset] [(.long vs), (.long us)])) rfl (by rw [hml]; rfl) (argsL := [(.long us), (.long vs)]) (rest := []) (lenOf pd__JJ_I rfl) rfl (by show 2 * 0 + _ ≤ _; exact Nat.le_of_eq rfl) (hb hby d24_8) (fun _ _ => ⟨rfl, e101, (by decide : 0 + 0 ≤ _), (by decide : 0 + 0 ≤ _)⟩)
  dsimp only [Pt.U, Pt.locs, Pt.cells, Pt.slots] at X102 l102 y102 z102 st102 hQ102
  subst l102 y102 z102
  obtain ⟨rfl, Nq102, e102⟩ := hQ102
  have N102 := Fr.app N0 Nq102
  have S103 : ∀ t, Steps p.tables e below (T102.setTop (mkF m 13 #[.val (.ref r0), .val (.ref r1), .val (.int (f_cmp us vs))] [(.int (f_cmp us vs))])) t → Steps p.tables e below (s₁.setTop (entryFrame m #[(.ref r0), (.ref r1)] 3)) t := by
    intro t kt
    refine pre0 _ ?_
    show Steps p.tables e below (s₁.setTop (mkF m 0 #[.val (.ref r0), .val (.ref r1), .unset] [])) _
    refine XS.aloadN X0.here hx rfl (hb hby d24_0) rfl rfl ?_
    show Steps p.tables e below (s₁.setTop (mkF m 1 #[.val (.ref r0), .val (.ref r1), .unset] [(.ref r0)])) _
    refine st100 _ ?_
    show Steps p.tables e below (T100.setTop (mkF m 4 #[.val (.ref r0), .val (.ref r1), .unset] [(.long us)])) _
    refine XS.aloadN X100.here hx rfl (hb hby d24_4) rfl rfl ?_
    show Steps p.tables e below (T100.setTop (mkF m 5 #[.val (.ref r0), .val (.ref r1), .unset] [(.ref r1), (.long us)])) _
    refine st101 _ ?_
    show Steps p.tables e below (T101.setTop (mkF m 8 #[.val (.ref r0), .val (.ref r1), .unset] [(.long vs), (.long us)])) _
    refine st102 _ ?_
    show Steps p.tables e below (T102.setTop (mkF m 11 #[.val (.ref r0), .val (.ref r1), .unset] [(.int (f_cmp us vs))])) _
    refine XS.istoreN X102.here hx rfl (hb hby d24_11) rfl (l' := #[.val (.ref r0), .val (.ref r1), .val (.int (f_cmp us vs))]) rfl ?_
    show Steps p.tables e below (T102.setTop (mkF m 12 #[.val (.ref r0), .val (.ref r1), .val (.int (f_cmp us vs))] [])) _
    refine XS.iloadN X102.here hx rfl (hb hby d24_12) rfl ?_
    exact kt
  by_cases hc13_104 : (f_cmp us vs) = 0
  case pos =>
    obtain ⟨T105, X105, e105, st105⟩ := getF X102 hx hZ hown (host := "") (Or.inl (hw _ (List.mem_of_getElem? (i := 118) rfl))) Via.refl e102 F1 (g := (mkF m 19 #[.val (.ref r0), .val (.ref r1), .val (.int (f_cmp us vs))] [(.ref r0)])) rfl rfl (hb hby d24_19)
    obtain ⟨T106, X106, e106, st106⟩ := getF X105 hx hZ hown (host := "") (Or.inl (hw _ (List.mem_of_getElem? (i := 118) rfl))) Via.refl e105 G1 (g := (mkF m 23 #[.val (.ref r0), .val (.ref r1), .val (.int (f_cmp us vs))] [(.ref r1), (.int un)])) rfl rfl (hb hby d24_23)
    obtain ⟨fs, hrT, hrunT, hendT, hWT, hsameT⟩ := X106.leave (hlocks := BodyLoose.notSynchronized Bd) (v := some (.int (un - vn))) (fun h => by rw [Bd.returns] at h; cases h)
    refine ⟨_, _, S103 _ ?_, hrunT, hendT, _, _, rfl, ?_, ⟨_, rfl⟩, hWT, hsameT.mono (by decide) (by decide)⟩
    · show Steps p.tables e below (T102.setTop (mkF m 13 #[.val (.ref r0), .val (.ref r1), .val (.int (f_cmp us vs))] [(.int (f_cmp us vs))])) _
      refine XS.ifYes X102.here hx rfl (pc0 := 13) (pc' := 18) rfl (hb hby d24_13) rfl (XT.i0_eq_t hc13_104) (by decide) (by decide) ?_
      show Steps p.tables e below (T102.setTop (mkF m 18 #[.val (.ref r0), .val (.ref r1), .val (.int (f_cmp us vs))] [])) _
      refine XS.aloadN X102.here hx rfl (hb hby d24_18) rfl rfl ?_
      show Steps p.tables e below (T102.setTop (mkF m 19 #[.val (.ref r0), .val (.ref r1), .val (.int (f_cmp us vs))] [(.ref r0)])) _
      refine st105 _ ?_
      show Steps p.tables e below (T105.setTop (mkF m 22 #[.val (.ref r0), .val (.ref r1), .val (.int (f_cmp us vs))] [(.int un)])) _
      refine XS.aloadN X105.here hx rfl (hb hby d24_22) rfl rfl ?_
      show Steps p.tables e below (T105.setTop (mkF m 23 #[.val (.ref r0), .val (.ref r1), .val (.int (f_cmp us vs))] [(.ref r1), (.int un)])) _
      refine st106 _ ?_
      show Steps p.tables e below (T106.setTop (mkF m 26 #[.val (.ref r0), .val (.ref r1), .val (.int (f_cmp us vs))] [(.int vn), (.int un)])) _
      refine XS.isub X106.here hx rfl (hb hby d24_26) rfl ?_
      show Steps p.tables e below (T106.setTop (mkF m 27 #[.val (.ref r0), .val (.ref r1), .val (.int (f_cmp us vs))] [(.int (un - vn))])) _
      exact retI X106 hx Bd.returns (hb hby d24_27) hrT
    · show Q24 Z r0 r1 us un vs vn h0 n0 _ T106.heap _
      rw [e106]
      have hv : f_ct us un vs vn = (un - vn) := by unfold f_ct; rw [if_pos hc13_104]
      exact ⟨(congrArg (fun z => some (Value.int z)) hv.symm), N102, rfl⟩
  case neg =>
    obtain ⟨fs, hrT, hrunT, hendT, hWT, hsameT⟩ := X102.leave (hlocks := BodyLoose.notSynchronized Bd) (v := some (.int (f_cmp us vs))) (fun h => by rw [Bd.returns] at h; cases h)
    refine ⟨_, _, S103 _ ?_, hrunT, hendT, _, _, rfl, ?_, ⟨_, rfl⟩, hWT, hsameT.mono (by decide) (by decide)⟩
    · show Steps p.tables e below (T102.setTop (mkF m 13 #[.val (.ref r0), .val (.ref r1), .val (.int (f_cmp us vs))] [(.int (f_cmp us vs))])) _
      refine XS.ifNo X102.here hx rfl (hb hby d24_13) rfl (XT.i0_eq_f hc13_104) ?_
      show Steps p.tables e below (T102.setTop (mkF m 16 #[.val (.ref r0), .val (.ref r1), .val (.int (f_cmp us vs))] [])) _
      refine XS.iloadN X102.here hx rfl (hb hby d24_16) rfl ?_
      show Steps p.tables e below (T102.setTop (mkF m 17 #[.val (.ref r0), .val (.ref r1), .val (.int (f_cmp us vs))] [(.int (f_cmp us vs))])) _
      exact retI X102 hx Bd.returns (hb hby d24_17) hrT
    · show Q24 Z r0 r1 us un vs vn h0 n0 _ T102.heap _
      rw [e102]
      have hv : f_ct us un vs vn = (f_cmp us vs) := by unfold f_ct; rw [if_neg hc13_104]
      exact ⟨(congrArg (fun z => some (Value.int z)) hv.symm), N102, rfl⟩
theorem d25_0 : decode jdk_2316_method_24_code 0 = .ok (.aload_n 0, 1) := by decide +kernel
theorem d25_1 : decode jdk_2316_method_24_code 1 = .ok (.getfield 224, 3) := by decide +kernel
theorem d25_4 : decode jdk_2316_method_24_code 4 = .ok (.ireturn, 1) := by decide +kernel
theorem ef25 (m : MethodId) (x0 : Addr) : entryFrame m #[(.ref x0)] 1 = mkF m 0 #[.val (.ref x0)] [] := by first | (simp [entryFrame, mkF, argsToLocals, Value.category]; done) | rfl
def Q25 (Z : State) (r0 : Addr) (un : Int32) (h0 : Heap) (n0 : Nat) (v : Option Value) (h : Heap) (L : List Loc) : Prop := v = some (.int un) ∧ Fr n0 L ∧ h = h0
set_option maxRecDepth 65536 in
set_option maxHeartbeats 40000000 in
theorem rm25 (l : Launch) (Z : State) (a0 : Array Value) (hw : ∀ d ∈ tables_1, d.before a0 Z = true) (ws : List Jvm.Cond) (r0 : Addr) (un : Int32) (h0 : Heap) (n0 : Nat) (Z0 : n0 ≤ h0.size) (F : Fld Z h0 r0 "java/time/Duration" "nanos" "I" (.int un)) :
    MetFree l (⟨"java/time/Duration", "getNano", "()I"⟩ : MethodName) (head1 (Jvm.Cond.code (⟨"java/time/Duration", "getNano", "()I"⟩ : MethodName) jdk_2316_method_24_code 1 (some .int) :: ws) ({ frames := 0, cells := 0, slots := 0, locals := 0 } : Room)) (fun a U => a = #[(.ref r0)] ∧ Z.Warmed39 U.vm ∧ U.heap = h0) (fun _ _ _ _ _ => True) (fun _ U o U' => ∃ v L, o = .returned v ∧ Q25 Z r0 un h0 n0 v U'.heap L ∧ FrameEnd U o U' L ({ frames := 0, cells := 0, slots := 0, locals := 0 } : Room).cells ({ frames := 0, cells := 0, slots := 0, locals := 0 } : Room).slots) := by
  refine MetFree.of_bodySF (plainFor_of_name pn_Duration) hisR ?_
  intro p e s m args below meth c s₁ Bd hml0 hP hK
  obtain ⟨rfl, hZ, hh⟩ := hP
  have hx := Bd.exec
  have hby := Bd.bytes
  have hml : c.maxLocals = 1 := hml0
  have hown : s.vm.findClass "java/time/Duration" = some m.cls := findClass_of_methodNamed Bd.named
  have hnm := (name_of_methodNamed Bd.named Bd.method).1
  have X0 : Stand p l e ({ frames := 0, cells := 0, slots := 0, locals := 0 } : Room) s m #[(.ref r0)] below meth c s₁ [] 0 0 := Stand.of_body Bd
  have e0 : s₁.heap = h0 := by rw [← hh, Bd.state]; rfl
  have N0 := Fr.nil n0
  have pre0 : ∀ t, Steps p.tables e below (s₁.setTop (mkF m 0 #[.val (.ref r0)] [])) t → Steps p.tables e below (s₁.setTop (entryFrame m #[(.ref r0)] 1)) t := fun t k => castTop (ef25 m r0) k
  obtain ⟨T107, X107, e107, st107⟩ := getF X0 hx hZ hown (host := "") (Or.inl (hw _ (List.mem_of_getElem? (i := 118) rfl))) Via.refl e0 F (g := (mkF m 1 #[.val (.ref r0)] [(.ref r0)])) rfl rfl (hb hby d25_1)
  obtain ⟨fs, hrT, hrunT, hendT, hWT, hsameT⟩ := X107.leave (hlocks := BodyLoose.notSynchronized Bd) (v := some (.int un)) (fun h => by rw [Bd.returns] at h; cases h)
  refine ⟨_, _, pre0 _ ?_, hrunT, hendT, _, _, rfl, ?_, ⟨_, rfl⟩, hWT, hsameT.mono (by decide) (by decide)⟩
  · show Steps p.tables e below (s₁.setTop (mkF m 0 #[.val (.ref r0)] [])) _
    refine XS.aloadN X0.here hx rfl (hb hby d25_0) rfl rfl ?_
    show Steps p.tables e below (s₁.setTop (mkF m 1 #[.val (.ref r0)] [(.ref r0)])) _
    refine st107 _ ?_
    show Steps p.tables e below (T107.setTop (mkF m 4 #[.val (.ref r0)] [(.int un)])) _
    exact retI X107 hx Bd.returns (hb hby d25_4) hrT
  · show Q25 Z r0 un h0 n0 _ T107.heap _
    rw [e107]
    exact ⟨rfl, N0, rfl⟩
theorem d22_0 : decode prog_20_method_2_code 0 = .ok (.aload_n 0, 1) := by decide +kernel
theorem d22_1 : decode prog_20_method_2_code 1 = .ok (.aload_n 1, 1) := by decide +kernel
theorem pd__Ljava_lang_Object_Ljava_lang_String__Ljava_lang_Object_ : parseMethodDescriptor "(Ljava/lang/Object;Ljava/lang/String;)Ljava/lang/Object;" = some ⟨[(.object "java/lang/Object"), (.object "java/lang/String")], some (.object "java/lang/Object")⟩ := by decide +kernel
theorem d22_2 : decode prog_20_method_2_code 2 = .ok (.invokestatic 7, 3) := by decide +kernel
theorem d22_5 : decode prog_20_method_2_code 5 = .ok (.pop, 1) := by decide +kernel
theorem d22_6 : decode prog_20_method_2_code 6 = .ok (.aload_n 0, 1) := by decide +kernel
theorem d22_7 : decode prog_20_method_2_code 7 = .ok (.lconst 1, 1) := by decide +kernel
theorem pd__J_Ljava_time_Duration_ : parseMethodDescriptor "(J)Ljava/time/Duration;" = some ⟨[.long], some (.object "java/time/Duration")⟩ := by decide +kernel
theorem d22_8 : decode prog_20_method_2_code 8 = .ok (.invokestatic 13, 3) := by decide +kernel
theorem pd__Ljava_time_Duration__I : parseMethodDescriptor "(Ljava/time/Duration;)I" = some ⟨[(.object "java/time/Duration")], some .int⟩ := by decide +kernel
theorem d22_11 : decode prog_20_method_2_code 11 = .ok (.invokevirtual 19, 3) := by decide +kernel
theorem d22_14 : decode prog_20_method_2_code 14 = .ok (.ifCond .lt 17, 3) := by decide +kernel
theorem d22_17 : decode prog_20_method_2_code 17 = .ok (.aload_n 0, 1) := by decide +kernel
theorem pd___I : parseMethodDescriptor "()I" = some ⟨[], some .int⟩ := by decide +kernel
theorem d22_18 : decode prog_20_method_2_code 18 = .ok (.invokevirtual 23, 3) := by decide +kernel
theorem d22_21 : decode prog_20_method_2_code 21 = .ok (.i2l, 1) := by decide +kernel
theorem d22_22 : decode prog_20_method_2_code 22 = .ok (.ldc2_w 29, 3) := by decide +kernel
theorem d22_25 : decode prog_20_method_2_code 25 = .ok (.lrem, 1) := by decide +kernel
theorem d22_26 : decode prog_20_method_2_code 26 = .ok (.lconst 0, 1) := by decide +kernel
theorem d22_27 : decode prog_20_method_2_code 27 = .ok (.lcmp, 1) := by decide +kernel
theorem d22_28 : decode prog_20_method_2_code 28 = .ok (.ifCond .eq 21, 3) := by decide +kernel
theorem d22_49 : decode prog_20_method_2_code 49 = .ok (.aload_n 0, 1) := by decide +kernel
theorem d22_50 : decode prog_20_method_2_code 50 = .ok (.areturn, 1) := by decide +kernel
theorem pn_Durations : plainName "com/example/even_bucket/evenbucket/Durations" = true := by first | (simp [plainName, overriddenIn]; done) | decide +kernel
theorem ef22 (m : MethodId) (x0 : Addr) (x1 : Addr) : entryFrame m #[(.ref x0), (.ref x1)] 2 = mkF m 0 #[.val (.ref x0), .val (.ref x1)] [] := by first | (simp [entryFrame, mkF, argsToLocals, Value.category]; done) | rfl
def Q22 (Z : State) (r0 : Addr) (r1 : Addr) (us : Int64) (un : Int32) (h0 : Heap) (n0 : Nat) (v : Option Value) (h : Heap) (L : List Loc) : Prop := v = some (.ref r0) ∧ Fr n0 L ∧ Keep h0 h []
set_option maxRecDepth 65536 in
set_option maxHeartbeats 40000000 in
theorem rm22 (l : Launch) (Z : State) (a0 : Array Value) (hw : ∀ d ∈ tables_1, d.before a0 Z = true) (ws : List Jvm.Cond) (r0 : Addr) (r1 : Addr) (us : Int64) (un : Int32) (h0 : Heap) (n0 : Nat) (Z0 : n0 ≤ h0.size) (F0 : Fld Z h0 r0 "java/time/Duration" "seconds" "J" (.long us)) (F1 : Fld Z h0 r0 "java/time/Duration" "nanos" "I" (.int un)) (E1 : Exa Z h0 r0 "java/time/Duration") (hc : ¬ (f_ct us un (f_s (1 : Int64)) (f_n (1 : Int64))) < 0) (hr : ((un.toInt64) - ((un.toInt64) / (1000000 : Int64)) * (1000000 : Int64)) = (0 : Int64)) :
    MetFree l (⟨"com/example/even_bucket/evenbucket/Durations", "requirePositiveWholeMillis", "(Ljava/time/Duration;Ljava/lang/String;)Ljava/time/Duration;"⟩ : MethodName) (head1 (Jvm.Cond.code (⟨"com/example/even_bucket/evenbucket/Durations", "requirePositiveWholeMillis", "(Ljava/time/Duration;Ljava/lang/String;)Ljava/time/Duration;"⟩ : MethodName) prog_20_method_2_code 2 (some (.object "java/time/Duration")) :: ws) ({ frames := 4, cells := 1, slots := 2, locals := 59 } : Room)) (fun a U => a = #[(.ref r0), (.ref r1)] ∧ Z.Warmed39 U.vm ∧ U.heap = h0) (fun _ _ _ _ _ => True) (fun _ U o U' => ∃ v L, o = .returned v ∧ Q22 Z r0 r1 us un h0 n0 v U'.heap L ∧ FrameEnd U o U' L ({ frames := 4, cells := 1, slots := 2, locals := 59 } : Room).cells ({ frames := 4, cells := 1, slots := 2, locals := 59 } : Room).slots) := by
  refine MetFree.of_bodySF (plainFor_of_name pn_Durations) hisR ?_
  intro p e s m args below meth c s₁ Bd hml0 hP hK
  obtain ⟨rfl, hZ, hh⟩ := hP
  have hx := Bd.exec
  have hby := Bd.bytes
  have hml : c.maxLocals = 2 := hml0
  have hown : s.vm.findClass "com/example/even_bucket/evenbucket/Durations" = some m.cls := findClass_of_methodNamed Bd.named
  have hnm := (name_of_methodNamed Bd.named Bd.method).1
  have X0 : Stand p l e ({ frames := 4, cells := 1, slots := 2, locals := 59 } : Room) s m #[(.ref r0), (.ref r1)] below meth c s₁ [] 0 0 := Stand.of_body Bd
  have e0 : s₁.heap = h0 := by rw [← hh, Bd.state]; rfl
  have N0 := Fr.nil n0
  have pre0 : ∀ t, Steps p.tables e below (s₁.setTop (mkF m 0 #[.val (.ref r0), .val (.ref r1)] [])) t → Steps p.tables e below (s₁.setTop (entryFrame m #[(.ref r0), (.ref r1)] 2)) t := fun t k => castTop (ef22 m r0 r1) k
  obtain ⟨_, _, ⟨T108, L108, k108, n108⟩, -, X108, ⟨Lc108, hQ108, l108, y108, z108⟩, st108⟩ := Jvm.LawKit.callS X0 hx (y := (⟨"java/util/Objects", "requireNonNull", "(Ljava/lang/Object;Ljava/lang/String;)Ljava/lang/Object;"⟩ : MethodName)) hown (mvT hZ (hw _ (List.mem_of_getElem? (i := 135) rfl))) (mvT hZ (hw _ (List.mem_of_getElem? (i := 136) rfl))) (mvT hZ (hw _ (List.mem_of_getElem? (i := 137) rfl))) (mvT hZ (hw _ (List.mem_of_getElem? (i := 138) rfl))) (by decide) (backOf (W := 0) (rm23 l Z a0 hw [] r0 r1 h0 n0 Z0 ) hZ (hw _ (List.mem_of_getElem? (i := 138) rfl)) (hw _ (List.mem_of_getElem? (i := 137) rfl)) (by decide) (by decide)) (g := (mkF m 2 #[.val (.ref r0), .val (.ref r1)] [(.ref r1), (.ref r0)])) rfl (by rw [hml]; rfl) (argsL := [(.ref r0), (.ref r1)]) (rest := []) (lenOf pd__Ljava_lang_Object_Ljava_lang_String__Ljava_lang_Object_ rfl) rfl (by show 2 * 0 + _ ≤ _; exact Nat.le_of_eq rfl) (hb hby d22_2) (fun _ _ => ⟨rfl, e0, (by decide : 0 + 0 ≤ _), (by decide : 0 + 0 ≤ _)⟩)
  dsimp only [Pt.U, Pt.locs, Pt.cells, Pt.slots] at X108 l108 y108 z108 st108 hQ108
  subst l108 y108 z108
  obtain ⟨rfl, Nq108, e108⟩ := hQ108
  have N108 := Fr.app N0 Nq108
  obtain ⟨_, _, ⟨T109, L109, k109, n109⟩, -, X109, ⟨Lc109, hQ109, l109, y109, z109⟩, st109⟩ := Jvm.LawKit.callS X108 hx (y := (⟨"java/time/Duration", "ofMillis", "(J)Ljava/time/Duration;"⟩ : MethodName)) hown (mvT hZ (hw _ (List.mem_of_getElem? (i := 139) rfl))) (mvT hZ (hw _ (List.mem_of_getElem? (i := 102) rfl))) (mvT hZ (hw _ (List.mem_of_getElem? (i := 67) rfl))) (mvT hZ (hw _ (List.mem_of_getElem? (i := 103) rfl))) (by decide) (backOf (W := 1) (rm18 l Z a0 hw [] (1 : Int64) h0 n0 Z0 (by decide)) hZ (hw _ (List.mem_of_getElem? (i := 103) rfl)) (hw _ (List.mem_of_getElem? (i := 67) rfl)) (by decide) (by decide)) (g := (mkF m 8 #[.val (.ref r0), .val (.ref r1)] [(.long (1 : Int64)), (.ref r0)])) rfl (by rw [hml]; rfl) (argsL := [(.long (1 : Int64))]) (rest := [(.ref r0)]) (lenOf pd__J_Ljava_time_Duration_ rfl) rfl (by show 2 * 0 + _ ≤ _; exact Nat.le_of_eq rfl) (hb hby d22_8) (fun _ _ => ⟨rfl, e108, (by decide : 0 + 1 ≤ _), (by decide : 0 + 2 ≤ _)⟩)
  dsimp only [Pt.U, Pt.locs, Pt.cells, Pt.slots] at X109 l109 y109 z109 st109 hQ109
  subst l109 y109 z109
  obtain ⟨bb_109, rfl, Nq109, Kq109, f109_0, f109_1, f109_2, f109_3⟩ := hQ109
  have K110 : Keep h0 T109.heap [] := Kq109
  have N109 := Fr.app N108 Nq109
  have ge_bb_109 : n0 ≤ bb_109 := Nat.le_trans Z0 f109_0
  have sz_bb_109 : h0.size ≤ bb_109 := Nat.le_trans (Nat.le_refl _) f109_0
  have c111 : Exa Z T109.heap r0 "java/time/Duration" := (E1.keep Kq109)
  have c113 : Fld Z T109.heap r0 "java/time/Duration" "seconds" "J" (.long us) := (F0.keep Kq109 List.not_mem_nil)
  have c114 : Fld Z T109.heap r0 "java/time/Duration" "nanos" "I" (.int un) := (F1.keep Kq109 List.not_mem_nil)
  obtain ⟨cq112, kq112, q112a, q112b, q112c⟩ := isOf hZ rfl c111
  obtain ⟨_, _, ⟨T112, L112, k112, n112⟩, -, X112, ⟨Lc112, hQ112, l112, y112, z112⟩, st112⟩ := X109.virtualBack hx (y := (⟨"java/time/Duration", "compareTo", "(Ljava/time/Duration;)I"⟩ : MethodName)) (z := (⟨"java/time/Duration", "compareTo", "(Ljava/time/Duration;)I"⟩ : MethodName)) hown (mvT hZ (hw _ (List.mem_of_getElem? (i := 140) rfl))) (mvT hZ (hw _ (List.mem_of_getElem? (i := 141) rfl))) (notFace_of_selects (args := #[]) (mvT hZ (hw _ (List.mem_of_getElem? (i := 143) rfl)))) (mvT hZ (hw _ (List.mem_of_getElem? (i := 143) rfl))) (mvT hZ (hw _ (List.mem_of_getElem? (i := 142) rfl))) (by decide) (backOf (W := 0) (rm24 l Z a0 hw [] r0 bb_109 us un (f_s (1 : Int64)) (f_n (1 : Int64)) T109.heap n0 (Nat.le_trans Z0 K110.1) c113 c114 f109_2 f109_3) hZ (hw _ (List.mem_of_getElem? (i := 144) rfl)) (hw _ (List.mem_of_getElem? (i := 67) rfl)) (by decide) (by decide)) q112a q112c (g := (mkF m 11 #[.val (.ref r0), .val (.ref r1)] [(.ref bb_109), (.ref r0)])) rfl (by rw [hml]; rfl) (Steps.refl _) (argsL := [(.ref bb_109)]) (rest := []) (lenOf pd__Ljava_time_Duration__I rfl) rfl (by show 2 * 0 + _ ≤ _; exact Nat.le_of_eq rfl) (hb hby d22_11) (fun _ _ => ⟨rfl, rfl, (by decide : 1 + 0 ≤ _), (by decide : 2 + 0 ≤ _)⟩)
  dsimp only [Pt.U, Pt.locs, Pt.cells, Pt.slots] at X112 l112 y112 z112 st112 hQ112
  subst l112 y112 z112
  obtain ⟨rfl, Nq112, e112⟩ := hQ112
  have N112 := Fr.app N109 Nq112
  obtain ⟨cq115, kq115, q115a, q115b, q115c⟩ := isOf hZ e112 c111
  obtain ⟨_, _, ⟨T115, L115, k115, n115⟩, -, X115, ⟨Lc115, hQ115, l115, y115, z115⟩, st115⟩ := X112.virtualBack hx (y := (⟨"java/time/Duration", "getNano", "()I"⟩ : MethodName)) (z := (⟨"java/time/Duration", "getNano", "()I"⟩ : MethodName)) hown (mvT hZ (hw _ (List.mem_of_getElem? (i := 146) rfl))) (mvT hZ (hw _ (List.mem_of_getElem? (i := 147) rfl))) (notFace_of_selects (args := #[]) (mvT hZ (hw _ (List.mem_of_getElem? (i := 149) rfl)))) (mvT hZ (hw _ (List.mem_of_getElem? (i := 149) rfl))) (mvT hZ (hw _ (List.mem_of_getElem? (i := 148) rfl))) (by decide) (backOf (W := 0) (rm25 l Z a0 hw [] r0 un T109.heap n0 (Nat.le_trans Z0 K110.1) c114) hZ (hw _ (List.mem_of_getElem? (i := 150) rfl)) (hw _ (List.mem_of_getElem? (i := 67) rfl)) (by decide) (by decide)) q115a q115c (g := (mkF m 18 #[.val (.ref r0), .val (.ref r1)] [(.ref r0)])) rfl (by rw [hml]; rfl) (Steps.refl _) (argsL := []) (rest := []) (lenOf pd___I rfl) rfl (by show 2 * 0 + _ ≤ _; exact Nat.le_of_eq rfl) (hb hby d22_18) (fun _ _ => ⟨rfl, e112, (by decide : 1 + 0 ≤ _), (by decide : 2 + 0 ≤ _)⟩)
  dsimp only [Pt.U, Pt.locs, Pt.cells, Pt.slots] at X115 l115 y115 z115 st115 hQ115
  subst l115 y115 z115
  obtain ⟨rfl, Nq115, e115⟩ := hQ115
  have N115 := Fr.app N112 Nq115
  obtain ⟨fs, hrT, hrunT, hendT, hWT, hsameT⟩ := X115.leave (hlocks := BodyLoose.notSynchronized Bd) (v := some (.ref r0)) (fun h => by rw [Bd.returns] at h; cases h)
  refine ⟨_, _, pre0 _ ?_, hrunT, hendT, _, _, rfl, ?_, ⟨_, rfl⟩, hWT, hsameT.mono (by decide) (by decide)⟩
  · show Steps p.tables e below (s₁.setTop (mkF m 0 #[.val (.ref r0), .val (.ref r1)] [])) _
    refine XS.aloadN X0.here hx rfl (hb hby d22_0) rfl rfl ?_
    show Steps p.tables e below (s₁.setTop (mkF m 1 #[.val (.ref r0), .val (.ref r1)] [(.ref r0)])) _
    refine XS.aloadN X0.here hx rfl (hb hby d22_1) rfl rfl ?_
    show Steps p.tables e below (s₁.setTop (mkF m 2 #[.val (.ref r0), .val (.ref r1)] [(.ref r1), (.ref r0)])) _
    refine st108 _ ?_
    show Steps p.tables e below (T108.setTop (mkF m 5 #[.val (.ref r0), .val (.ref r1)] [(.ref r0)])) _
    refine XS.pop X108.here hx rfl (hb hby d22_5) rfl rfl ?_
    show Steps p.tables e below (T108.setTop (mkF m 6 #[.val (.ref r0), .val (.ref r1)] [])) _
    refine XS.aloadN X108.here hx rfl (hb hby d22_6) rfl rfl ?_
    show Steps p.tables e below (T108.setTop (mkF m 7 #[.val (.ref r0), .val (.ref r1)] [(.ref r0)])) _
    refine XS.lconst X108.here hx rfl (hb hby d22_7) ?_
    show Steps p.tables e below (T108.setTop (mkF m 8 #[.val (.ref r0), .val (.ref r1)] [(.long (1 : Int64)), (.ref r0)])) _
    refine st109 _ ?_
    show Steps p.tables e below (T109.setTop (mkF m 11 #[.val (.ref r0), .val (.ref r1)] [(.ref bb_109), (.ref r0)])) _
    refine st112.trans ?_
    show Steps p.tables e below (T112.setTop (mkF m 14 #[.val (.ref r0), .val (.ref r1)] [(.int (f_ct us un (f_s (1 : Int64)) (f_n (1 : Int64))))])) _
    refine XS.ifNo X112.here hx rfl (hb hby d22_14) rfl (XT.i0_lt_f hc) ?_
    show Steps p.tables e below (T112.setTop (mkF m 17 #[.val (.ref r0), .val (.ref r1)] [])) _
    refine XS.aloadN X112.here hx rfl (hb hby d22_17) rfl rfl ?_
    show Steps p.tables e below (T112.setTop (mkF m 18 #[.val (.ref r0), .val (.ref r1)] [(.ref r0)])) _
    refine st115.trans ?_
    show Steps p.tables e below (T115.setTop (mkF m 21 #[.val (.ref r0), .val (.ref r1)] [(.int un)])) _
    refine XS.i2l X115.here hx rfl (hb hby d22_21) rfl ?_
    show Steps p.tables e below (T115.setTop (mkF m 22 #[.val (.ref r0), .val (.ref r1)] [(.long (un.toInt64))])) _
    refine X115.ldc2Long hx hown (mvT hZ (hw _ (List.mem_of_getElem? (i := 151) rfl))) (g := (mkF m 22 #[.val (.ref r0), .val (.ref r1)] [(.long (un.toInt64))])) rfl (hb hby d22_22) _ ?_
    show Steps p.tables e below (T115.setTop (mkF m 25 #[.val (.ref r0), .val (.ref r1)] [(.long (1000000 : Int64)), (.long (un.toInt64))])) _
    refine XS.lrem X115.here hx rfl (hb hby d22_25) rfl (by decide) ?_
    show Steps p.tables e below (T115.setTop (mkF m 26 #[.val (.ref r0), .val (.ref r1)] [(.long ((un.toInt64) - ((un.toInt64) / (1000000 : Int64)) * (1000000 : Int64)))])) _
    refine XS.lconst X115.here hx rfl (hb hby d22_26) ?_
    show Steps p.tables e below (T115.setTop (mkF m 27 #[.val (.ref r0), .val (.ref r1)] [(.long (0 : Int64)), (.long ((un.toInt64) - ((un.toInt64) / (1000000 : Int64)) * (1000000 : Int64)))])) _
    refine XT.lcmp X115.here hx rfl (hb hby d22_27) rfl ?_
    show Steps p.tables e below (T115.setTop (mkF m 28 #[.val (.ref r0), .val (.ref r1)] [(.int (XT.cmpL ((un.toInt64) - ((un.toInt64) / (1000000 : Int64)) * (1000000 : Int64)) (0 : Int64)))])) _
    refine XS.ifYes X115.here hx rfl (pc0 := 28) (pc' := 49) rfl (hb hby d22_28) rfl (XT.ll_eq_t hr) (by decide) (by decide) ?_
    show Steps p.tables e below (T115.setTop (mkF m 49 #[.val (.ref r0), .val (.ref r1)] [])) _
    refine XS.aloadN X115.here hx rfl (hb hby d22_49) rfl rfl ?_
    show Steps p.tables e below (T115.setTop (mkF m 50 #[.val (.ref r0), .val (.ref r1)] [(.ref r0)])) _
    exact retOut X115 hx Bd.returns rfl (by right; right; right; right; exact ⟨rfl, rfl, rfl⟩) (hb hby d22_50) hrT
  · show Q22 Z r0 r1 us un h0 n0 _ T115.heap _
    rw [e115]
    exact ⟨rfl, N115, K110⟩
theorem d21_0 : decode prog_19_method_3_code 0 = .ok (.new 8, 3) := by decide +kernel
theorem d21_3 : decode prog_19_method_3_code 3 = .ok (.dup, 1) := by decide +kernel
theorem d21_4 : decode prog_19_method_3_code 4 = .ok (.lconst 0, 1) := by decide +kernel
theorem d21_5 : decode prog_19_method_3_code 5 = .ok (.aload_n 0, 1) := by decide +kernel
theorem own_wS {Z : State} {a0 : Array Value} (hw : ∀ d ∈ tables_1, d.before a0 Z = true) : ∀ a ∈ Bundle.stringAtoms, a.before a0 Z = true := by
  intro d hd
  simp only [Bundle.stringAtoms, List.mem_cons, List.not_mem_nil, or_false] at hd
  rcases hd with rfl | rfl | rfl | rfl | rfl | rfl | rfl
  · exact hw _ (List.mem_of_getElem? (i := 124) rfl)
  · exact hw _ (List.mem_of_getElem? (i := 125) rfl)
  · exact hw _ (List.mem_of_getElem? (i := 126) rfl)
  · exact hw _ (List.mem_of_getElem? (i := 127) rfl)
  · exact hw _ (List.mem_of_getElem? (i := 128) rfl)
  · exact hw _ (List.mem_of_getElem? (i := 129) rfl)
  · exact hw _ (List.mem_of_getElem? (i := 130) rfl)
theorem d21_6 : decode prog_19_method_3_code 6 = .ok (.ldc 38, 2) := by decide +kernel
theorem pd__Ljava_time_Duration_Ljava_lang_String__Ljava_time_Duration_ : parseMethodDescriptor "(Ljava/time/Duration;Ljava/lang/String;)Ljava/time/Duration;" = some ⟨[(.object "java/time/Duration"), (.object "java/lang/String")], some (.object "java/time/Duration")⟩ := by decide +kernel
theorem d21_8 : decode prog_19_method_3_code 8 = .ok (.invokestatic 39, 3) := by decide +kernel
theorem d21_11 : decode prog_19_method_3_code 11 = .ok (.iconst 0, 1) := by decide +kernel
theorem d21_12 : decode prog_19_method_3_code 12 = .ok (.invokespecial 35, 3) := by decide +kernel
theorem d21_15 : decode prog_19_method_3_code 15 = .ok (.areturn, 1) := by decide +kernel
theorem ef21 (m : MethodId) (x0 : Addr) : entryFrame m #[(.ref x0)] 1 = mkF m 0 #[.val (.ref x0)] [] := by first | (simp [entryFrame, mkF, argsToLocals, Value.category]; done) | rfl
def Q21 (Z : State) (r0 : Addr) (us : Int64) (un : Int32) (h0 : Heap) (n0 : Nat) (v : Option Value) (h : Heap) (L : List Loc) : Prop := ∃ bb : Addr, v = some (.ref bb) ∧ Fr n0 L ∧ Keep h0 h [] ∧ h0.size ≤ bb ∧ Exa Z h bb "com/example/even_bucket/evenbucket/Decision" ∧ Fld Z h bb "com/example/even_bucket/evenbucket/Decision" "remaining" "J" (.long (0 : Int64)) ∧ Fld Z h bb "com/example/even_bucket/evenbucket/Decision" "retryAfter" "Ljava/time/Duration;" (.ref r0)
set_option maxRecDepth 65536 in
set_option maxHeartbeats 40000000 in
theorem rm21 (l : Launch) (Z : State) (a0 : Array Value) (hw : ∀ d ∈ tables_1, d.before a0 Z = true) (ws : List Jvm.Cond) (r0 : Addr) (us : Int64) (un : Int32) (h0 : Heap) (n0 : Nat) (Z0 : n0 ≤ h0.size) (F0 : Fld Z h0 r0 "java/time/Duration" "seconds" "J" (.long us)) (F1 : Fld Z h0 r0 "java/time/Duration" "nanos" "I" (.int un)) (E1 : Exa Z h0 r0 "java/time/Duration") (hc : ¬ (f_ct us un (f_s (1 : Int64)) (f_n (1 : Int64))) < 0) (hr : ((un.toInt64) - ((un.toInt64) / (1000000 : Int64)) * (1000000 : Int64)) = (0 : Int64)) :
    MetFree l (⟨"com/example/even_bucket/evenbucket/Decision", "refuse", "(Ljava/time/Duration;)Lcom/example/even_bucket/evenbucket/Decision;"⟩ : MethodName) (head1 (Jvm.Cond.code (⟨"com/example/even_bucket/evenbucket/Decision", "refuse", "(Ljava/time/Duration;)Lcom/example/even_bucket/evenbucket/Decision;"⟩ : MethodName) prog_19_method_3_code 1 (some (.object "com/example/even_bucket/evenbucket/Decision")) :: ws) ({ frames := 5, cells := 4, slots := 49, locals := 76 } : Room)) (fun a U => a = #[(.ref r0)] ∧ Z.Warmed39 U.vm ∧ U.heap = h0) (fun _ _ _ _ _ => True) (fun _ U o U' => ∃ v L, o = .returned v ∧ Q21 Z r0 us un h0 n0 v U'.heap L ∧ ReturnedEndW U o U' L ({ frames := 5, cells := 4, slots := 49, locals := 76 } : Room).cells ({ frames := 5, cells := 4, slots := 49, locals := 76 } : Room).slots) := by
  refine MetFree.of_bodySF (plainFor_of_name pn_Decision) hisR ?_
  intro p e s m args below meth c s₁ Bd hml0 hP hK
  obtain ⟨rfl, hZ, hh⟩ := hP
  have hx := Bd.exec
  have hby := Bd.bytes
  have hml : c.maxLocals = 1 := hml0
  have hown : s.vm.findClass "com/example/even_bucket/evenbucket/Decision" = some m.cls := findClass_of_methodNamed Bd.named
  have hnm := (name_of_methodNamed Bd.named Bd.method).1
  have X0 : Stand p l e ({ frames := 5, cells := 4, slots := 49, locals := 76 } : Room) s m #[(.ref r0)] below meth c s₁ [] 0 0 := Stand.of_body Bd
  have e0 : s₁.heap = h0 := by rw [← hh, Bd.state]; rfl
  have N0 := Fr.nil n0
  have pre0 : ∀ t, Steps p.tables e below (s₁.setTop (mkF m 0 #[.val (.ref r0)] [])) t → Steps p.tables e below (s₁.setTop (entryFrame m #[(.ref r0)] 1)) t := fun t k => castTop (ef21 m r0) k
  obtain ⟨T116, h116, X116, e116, E116, A116, D116, -, st116⟩ := newO X0 hx hZ hown (hw _ (List.mem_of_getElem? (i := 64) rfl)) (hw _ (List.mem_of_getElem? (i := 65) rfl)) (hw _ (List.mem_of_getElem? (i := 62) rfl)) e0 (g := (mkF m 0 #[.val (.ref r0)] [])) rfl (hb hby d21_0) (by decide) (by decide)
  obtain ⟨b116, g116⟩ : ∃ z, z = h0.size := ⟨_, rfl⟩
  rw [← g116] at A116 D116 st116
  have ge_b116 : n0 ≤ b116 := Nat.le_trans Z0 (Nat.le_of_eq g116.symm)
  have sz_b116 : h0.size ≤ b116 := Nat.le_of_eq g116.symm
  have K117 : Keep h0 h116 [] := (Keep.refl h0 []).ext E116
  have F118 : Fld Z h116 b116 "com/example/even_bucket/evenbucket/Decision" "remaining" "J" (.long (0 : Int64)) := D116 (Or.inr (hw _ (List.mem_of_getElem? (i := 73) rfl))) (ty := .long) (by decide)
  have F119 : Fld Z h116 b116 "com/example/even_bucket/evenbucket/Decision" "retryAfter" "Ljava/time/Duration;" .null := D116 (Or.inr (hw _ (List.mem_of_getElem? (i := 75) rfl))) (ty := (.object "java/time/Duration")) (by decide)
  have F120 : Fld Z h116 b116 "com/example/even_bucket/evenbucket/Decision" "byFallback" "Z" (.int (0 : Int32)) := D116 (Or.inr (hw _ (List.mem_of_getElem? (i := 77) rfl))) (ty := .boolean) (by decide)
  obtain ⟨b121, T121, h121, kk121, X121, e121, E121, hS121, hk121, hZ121, hown121, st121⟩ := ldcS (s := s) (vm0 := s.vm) X116 hx hZ hown (hw _ (List.mem_of_getElem? (i := 123) rfl)) (own_wS hw) e116 ((State.WarmedH.refl s).since 0) (Nat.zero_le _) (g := (mkF m 6 #[.val (.ref r0)] [(.ref r0), (.long (0 : Int64)), (.ref b116), (.ref b116)])) rfl (hb hby d21_6) (n := 40) (by decide) (by decide) (by decide) (by decide)
  have K122 : Keep h0 h121 [] := K117.ext E121
  have c124 : Fld Z h121 r0 "java/time/Duration" "seconds" "J" (.long us) := ((F0.ext E116).ext E121)
  have c125 : Fld Z h121 r0 "java/time/Duration" "nanos" "I" (.int un) := ((F1.ext E116).ext E121)
  have c126 : Exa Z h121 r0 "java/time/Duration" := ((E1.ext E116).ext E121)
  obtain ⟨_, _, ⟨T123, L123, k123, n123⟩, -, X123, ⟨Lc123, hQ123, l123, y123, z123⟩, st123⟩ := Jvm.LawKit.callS X121 hx (y := (⟨"com/example/even_bucket/evenbucket/Durations", "requirePositiveWholeMillis", "(Ljava/time/Duration;Ljava/lang/String;)Ljava/time/Duration;"⟩ : MethodName)) hown121 (mvT hZ121 (hw _ (List.mem_of_getElem? (i := 131) rfl))) (mvT hZ121 (hw _ (List.mem_of_getElem? (i := 132) rfl))) (mvT hZ121 (hw _ (List.mem_of_getElem? (i := 133) rfl))) (mvT hZ121 (hw _ (List.mem_of_getElem? (i := 134) rfl))) (by decide) (backOf (W := 4) (rm22 l Z a0 hw [] r0 b121 us un h121 n0 (Nat.le_trans Z0 K122.1) c124 c125 c126 hc hr) hZ121 (hw _ (List.mem_of_getElem? (i := 134) rfl)) (hw _ (List.mem_of_getElem? (i := 133) rfl)) (by decide) (by decide)) (g := (mkF m 8 #[.val (.ref r0)] [(.ref b121), (.ref r0), (.long (0 : Int64)), (.ref b116), (.ref b116)])) rfl (by rw [hml]; rfl) (argsL := [(.ref r0), (.ref b121)]) (rest := [(.long (0 : Int64)), (.ref b116), (.ref b116)]) (lenOf pd__Ljava_time_Duration_Ljava_lang_String__Ljava_time_Duration_ rfl) rfl (by show 2 * 0 + _ ≤ _; exact Nat.le_of_eq rfl) (hb hby d21_8) (fun _ _ => ⟨rfl, e121, (by decide : 3 + 1 ≤ _), (by decide : 47 + 2 ≤ _)⟩)
  dsimp only [Pt.U, Pt.locs, Pt.cells, Pt.slots] at X123 l123 y123 z123 st123 hQ123
  subst l123 y123 z123
  obtain ⟨rfl, Nq123, Kq123⟩ := hQ123
  have K127 : Keep h0 T123.heap [] := K122.trans Kq123 (fun x hx => by simp at hx)
  have hk128 : kk121 ≤ T123.heap.size := Nat.le_trans hk121 Kq123.1
  have N123 := Fr.app N0 Nq123
  have c130 : Fld Z T123.heap b116 "com/example/even_bucket/evenbucket/Decision" "remaining" "J" (.long (0 : Int64)) := ((F118.ext E121).keep Kq123 List.not_mem_nil)
  have c131 : Fld Z T123.heap b116 "com/example/even_bucket/evenbucket/Decision" "retryAfter" "Ljava/time/Duration;" .null := ((F119.ext E121).keep Kq123 List.not_mem_nil)
  have c132 : Fld Z T123.heap b116 "com/example/even_bucket/evenbucket/Decision" "byFallback" "Z" (.int (0 : Int32)) := ((F120.ext E121).keep Kq123 List.not_mem_nil)
  have c133 : Exa Z T123.heap b116 "com/example/even_bucket/evenbucket/Decision" := ((A116.ext E121).keep Kq123)
  obtain ⟨_, _, ⟨T129, L129, k129, n129⟩, -, X129, ⟨Lc129, hQ129, l129, y129, z129⟩, st129⟩ := X123.specialBack hx (y := (⟨"com/example/even_bucket/evenbucket/Decision", "<init>", "(JLjava/time/Duration;Z)V"⟩ : MethodName)) rfl hown121 (mvT hZ121 (hw _ (List.mem_of_getElem? (i := 68) rfl))) (mvT hZ121 (hw _ (List.mem_of_getElem? (i := 69) rfl))) (mvT hZ121 (hw _ (List.mem_of_getElem? (i := 70) rfl))) (by decide) (backOf (W := 1) (rm12 l Z a0 hw [] b116 (0 : Int64) r0 (0 : Int32) T123.heap n0 (Nat.le_trans Z0 K127.1) c130 c131 c132 c133 ge_b116) hZ121 (hw _ (List.mem_of_getElem? (i := 70) rfl)) (hw _ (List.mem_of_getElem? (i := 62) rfl)) (by decide) (by decide)) (g := (mkF m 12 #[.val (.ref r0)] [(.int (0 : Int32)), (.ref r0), (.long (0 : Int64)), (.ref b116), (.ref b116)])) rfl (by rw [hml]; rfl) (Steps.refl _) (a := b116) (argsL := [(.long (0 : Int64)), (.ref r0), (.int (0 : Int32))]) (rest := [(.ref b116)]) (lenOf pd__JLjava_time_Duration_Z_V rfl) rfl (by show 2 * 0 + _ ≤ _; exact Nat.le_of_eq rfl) (hb hby d21_12) (fun _ _ => ⟨rfl, rfl, (by decide : 4 + 0 ≤ _), (by decide : 49 + 0 ≤ _)⟩)
  dsimp only [Pt.U, Pt.locs, Pt.cells, Pt.slots] at X129 l129 y129 z129 st129 hQ129
  subst l129 y129 z129
  obtain ⟨rfl, Nq129, Kq129, f129_0, f129_1⟩ := hQ129
  have K134 : Keep h0 T129.heap [] := K127.trans Kq129 (fun x hx => by cases List.mem_singleton.mp hx; exact Or.inr sz_b116)
  have hk135 : kk121 ≤ T129.heap.size := Nat.le_trans hk128 Kq129.1
  have N129 := Fr.app N123 Nq129
  obtain ⟨fs, hrT, hrunT, hendT, hRW⟩ := X129.leaveW (hlocks := BodyLoose.notSynchronized Bd) hS121 (v := some (.ref b116)) hk135 (fun h => by rw [Bd.returns] at h; cases h)
  refine ⟨_, _, pre0 _ ?_, hrunT, hendT, _, _, rfl, ?_, hRW.1, hRW.2.1, hRW.2.2.1, hRW.2.2.2.mono (by decide) (by decide)⟩
  · show Steps p.tables e below (s₁.setTop (mkF m 0 #[.val (.ref r0)] [])) _
    refine st116 _ ?_
    show Steps p.tables e below (T116.setTop (mkF m 3 #[.val (.ref r0)] [(.ref b116)])) _
    refine XS.dup X116.here hx rfl (hb hby d21_3) rfl rfl ?_
    show Steps p.tables e below (T116.setTop (mkF m 4 #[.val (.ref r0)] [(.ref b116), (.ref b116)])) _
    refine XS.lconst X116.here hx rfl (hb hby d21_4) ?_
    show Steps p.tables e below (T116.setTop (mkF m 5 #[.val (.ref r0)] [(.long (0 : Int64)), (.ref b116), (.ref b116)])) _
    refine XS.aloadN X116.here hx rfl (hb hby d21_5) rfl rfl ?_
    show Steps p.tables e below (T116.setTop (mkF m 6 #[.val (.ref r0)] [(.ref r0), (.long (0 : Int64)), (.ref b116), (.ref b116)])) _
    refine st121 _ ?_
    show Steps p.tables e below (T121.setTop (mkF m 8 #[.val (.ref r0)] [(.ref b121), (.ref r0), (.long (0 : Int64)), (.ref b116), (.ref b116)])) _
    refine st123 _ ?_
    show Steps p.tables e below (T123.setTop (mkF m 11 #[.val (.ref r0)] [(.ref r0), (.long (0 : Int64)), (.ref b116), (.ref b116)])) _
    refine XS.iconst X123.here hx rfl (hb hby d21_11) ?_
    show Steps p.tables e below (T123.setTop (mkF m 12 #[.val (.ref r0)] [(.int (0 : Int32)), (.ref r0), (.long (0 : Int64)), (.ref b116), (.ref b116)])) _
    refine st129.trans ?_
    show Steps p.tables e below (T129.setTop (mkF m 15 #[.val (.ref r0)] [(.ref b116)])) _
    exact retOut X129 hx Bd.returns rfl (by right; right; right; right; exact ⟨rfl, rfl, rfl⟩) (hb hby d21_15) hrT
  · show Q21 Z r0 us un h0 n0 _ T129.heap _
    have c136 : Exa Z T129.heap b116 "com/example/even_bucket/evenbucket/Decision" := (c133.keep Kq129)
    exact ⟨b116, rfl, N129, K134, sz_b116, c136, f129_0, f129_1⟩
theorem own_hc {m : Int64} (h : 1 ≤ m.toInt) : ¬ (f_ct (f_s m) (f_n m) (f_s (1 : Int64)) (f_n (1 : Int64))) < 0 := by
  have e1 : (f_s m).toInt = m.toInt / 1000 := (own_ms h).1
  have e2 := (own_ms h).2.2
  have o1 : (f_s (1 : Int64)).toInt = 0 := by decide
  have o2 : (f_n (1 : Int64)).toInt = 1000000 := by decide
  have z : f_s (1 : Int64) = 0 := by decide
  unfold f_ct f_cmp
  have q1 : ¬ (f_s m) < (f_s (1 : Int64)) := by rw [Int64.lt_iff_toInt_lt]; omega
  rw [if_neg q1]
  by_cases q2 : f_s m = f_s (1 : Int64)
  · rw [if_pos q2, if_pos rfl]
    have q3 := congrArg Int64.toInt q2
    rw [XT.negI32, Jvm.Kit.i32_sub (by omega) (by omega), e2, o2]
    omega
  · rw [if_neg q2, if_neg (by decide)]; decide
theorem own_hr {m : Int64} (h : 1 ≤ m.toInt) : (((f_n m).toInt64) - (((f_n m).toInt64) / (1000000 : Int64)) * (1000000 : Int64)) = (0 : Int64) := by
  have e2 := (own_ms h).2.2
  rw [← Int64.toInt_inj, Jvm.Kit.i64_rem_nonneg (by rw [Jvm.Kit.i64_of_i32]; omega), Jvm.Kit.i64_of_i32, e2, show (1000000 : Int64).toInt = 1000000 from rfl, show (0 : Int64).toInt = 0 from rfl]
  omega
theorem d16_0 : decode prog_33_method_2_code 0 = .ok (.lload_n 2, 1) := by decide +kernel
theorem d16_1 : decode prog_33_method_2_code 1 = .ok (.lload_n 0, 1) := by decide +kernel
theorem d16_2 : decode prog_33_method_2_code 2 = .ok (.lload_n 2, 1) := by decide +kernel
theorem d16_3 : decode prog_33_method_2_code 3 = .ok (.invokestatic 20, 3) := by decide +kernel
theorem d16_6 : decode prog_33_method_2_code 6 = .ok (.lsub, 1) := by decide +kernel
theorem d16_7 : decode prog_33_method_2_code 7 = .ok (.lreturn, 1) := by decide +kernel
theorem ef16 (m : MethodId) (x0 : Int64) (x1 : Int64) : entryFrame m #[(.long x0), (.long x1)] 4 = mkF m 0 #[.val (.long x0), .second, .val (.long x1), .second] [] := by first | (simp [entryFrame, mkF, argsToLocals, Value.category]; done) | rfl
def Q16 (Z : State) (q0 : Int64) (q1 : Int64) (h0 : Heap) (n0 : Nat) (v : Option Value) (h : Heap) (L : List Loc) : Prop := v = some (.long (q1 - (0 : Int64))) ∧ Fr n0 L ∧ h = h0
set_option maxRecDepth 65536 in
set_option maxHeartbeats 40000000 in
theorem rm16 (l : Launch) (Z : State) (a0 : Array Value) (hw : ∀ d ∈ tables_1, d.before a0 Z = true) (ws : List Jvm.Cond) (q0 : Int64) (q1 : Int64) (h0 : Heap) (n0 : Nat) (Z0 : n0 ≤ h0.size) (hz : q0 = 0) (hd : 1 ≤ q1.toInt) :
    MetFree l (⟨"com/example/even_bucket/evenbucket/IntervalBucket", "untilNextRefill", "(JJ)J"⟩ : MethodName) (head1 (Jvm.Cond.code (⟨"com/example/even_bucket/evenbucket/IntervalBucket", "untilNextRefill", "(JJ)J"⟩ : MethodName) prog_33_method_2_code 4 (some .long) :: ws) ({ frames := 1, cells := 0, slots := 0, locals := 21 } : Room)) (fun a U => a = #[(.long q0), (.long q1)] ∧ Z.Warmed39 U.vm ∧ U.heap = h0) (fun _ _ _ _ _ => True) (fun _ U o U' => ∃ v L, o = .returned v ∧ Q16 Z q0 q1 h0 n0 v U'.heap L ∧ FrameEnd U o U' L ({ frames := 1, cells := 0, slots := 0, locals := 21 } : Room).cells ({ frames := 1, cells := 0, slots := 0, locals := 21 } : Room).slots) := by
  refine MetFree.of_bodySF (plainFor_of_name pn_IntervalBucket) hisR ?_
  intro p e s m args below meth c s₁ Bd hml0 hP hK
  obtain ⟨rfl, hZ, hh⟩ := hP
  have hx := Bd.exec
  have hby := Bd.bytes
  have hml : c.maxLocals = 4 := hml0
  have hown : s.vm.findClass "com/example/even_bucket/evenbucket/IntervalBucket" = some m.cls := findClass_of_methodNamed Bd.named
  have hnm := (name_of_methodNamed Bd.named Bd.method).1
  have X0 : Stand p l e ({ frames := 1, cells := 0, slots := 0, locals := 21 } : Room) s m #[(.long q0), (.long q1)] below meth c s₁ [] 0 0 := Stand.of_body Bd
  have e0 : s₁.heap = h0 := by rw [← hh, Bd.state]; rfl
  have N0 := Fr.nil n0
  have pre0 : ∀ t, Steps p.tables e below (s₁.setTop (mkF m 0 #[.val (.long q0), .second, .val (.long q1), .second] [])) t → Steps p.tables e below (s₁.setTop (entryFrame m #[(.long q0), (.long q1)] 4)) t := fun t k => castTop (ef16 m q0 q1) k
  obtain ⟨_, _, ⟨T137, L137, k137, n137⟩, -, X137, ⟨Lc137, hQ137, l137, y137, z137⟩, st137⟩ := Jvm.LawKit.callS X0 hx (y := (⟨"java/lang/Long", "remainderUnsigned", "(JJ)J"⟩ : MethodName)) hown (mvT hZ (hw _ (List.mem_of_getElem? (i := 98) rfl))) (mvT hZ (hw _ (List.mem_of_getElem? (i := 99) rfl))) (mvT hZ (hw _ (List.mem_of_getElem? (i := 50) rfl))) (mvT hZ (hw _ (List.mem_of_getElem? (i := 100) rfl))) (by decide) (backOf (W := 2) (rm17 l Z a0 hw [] q0 q1 h0 n0 Z0 hz hd) hZ (hw _ (List.mem_of_getElem? (i := 100) rfl)) (hw _ (List.mem_of_getElem? (i := 50) rfl)) (by decide) (by decide)) (g := (mkF m 3 #[.val (.long q0), .second, .val (.long q1), .second] [(.long q1), (.long q0), (.long q1)])) rfl (by rw [hml]; rfl) (argsL := [(.long q0), (.long q1)]) (rest := [(.long q1)]) (lenOf pd__JJ_J rfl) rfl (by show 2 * 0 + _ ≤ _; exact Nat.le_of_eq rfl) (hb hby d16_3) (fun _ _ => ⟨rfl, e0, (by decide : 0 + 0 ≤ _), (by decide : 0 + 0 ≤ _)⟩)
  dsimp only [Pt.U, Pt.locs, Pt.cells, Pt.slots] at X137 l137 y137 z137 st137 hQ137
  subst l137 y137 z137
  obtain ⟨rfl, Nq137, e137⟩ := hQ137
  have N137 := Fr.app N0 Nq137
  obtain ⟨fs, hrT, hrunT, hendT, hWT, hsameT⟩ := X137.leave (hlocks := BodyLoose.notSynchronized Bd) (v := some (.long (q1 - (0 : Int64)))) (fun h => by rw [Bd.returns] at h; cases h)
  refine ⟨_, _, pre0 _ ?_, hrunT, hendT, _, _, rfl, ?_, ⟨_, rfl⟩, hWT, hsameT.mono (by decide) (by decide)⟩
  · show Steps p.tables e below (s₁.setTop (mkF m 0 #[.val (.long q0), .second, .val (.long q1), .second] [])) _
    refine XS.lloadN X0.here hx rfl (hb hby d16_0) rfl ?_
    show Steps p.tables e below (s₁.setTop (mkF m 1 #[.val (.long q0), .second, .val (.long q1), .second] [(.long q1)])) _
    refine XS.lloadN X0.here hx rfl (hb hby d16_1) rfl ?_
    show Steps p.tables e below (s₁.setTop (mkF m 2 #[.val (.long q0), .second, .val (.long q1), .second] [(.long q0), (.long q1)])) _
    refine XS.lloadN X0.here hx rfl (hb hby d16_2) rfl ?_
    show Steps p.tables e below (s₁.setTop (mkF m 3 #[.val (.long q0), .second, .val (.long q1), .second] [(.long q1), (.long q0), (.long q1)])) _
    refine st137 _ ?_
    show Steps p.tables e below (T137.setTop (mkF m 6 #[.val (.long q0), .second, .val (.long q1), .second] [(.long (0 : Int64)), (.long q1)])) _
    refine XS.lsub X137.here hx rfl (hb hby d16_6) rfl ?_
    show Steps p.tables e below (T137.setTop (mkF m 7 #[.val (.long q0), .second, .val (.long q1), .second] [(.long (q1 - (0 : Int64)))])) _
    exact retOut X137 hx Bd.returns rfl (by right; left; exact ⟨rfl, rfl, _, rfl⟩) (hb hby d16_7) hrT
  · show Q16 Z q0 q1 h0 n0 _ T137.heap _
    rw [e137]
    exact ⟨rfl, N137, rfl⟩
theorem d15_0 : decode prog_33_method_10_code 0 = .ok (.lload_n 1, 1) := by decide +kernel
theorem d15_1 : decode prog_33_method_10_code 1 = .ok (.aload_n 0, 1) := by decide +kernel
theorem d15_2 : decode prog_33_method_10_code 2 = .ok (.getfield 30, 3) := by decide +kernel
theorem d15_5 : decode prog_33_method_10_code 5 = .ok (.lsub, 1) := by decide +kernel
theorem d15_6 : decode prog_33_method_10_code 6 = .ok (.aload_n 0, 1) := by decide +kernel
theorem d15_7 : decode prog_33_method_10_code 7 = .ok (.getfield 16, 3) := by decide +kernel
theorem d15_10 : decode prog_33_method_10_code 10 = .ok (.invokestatic 77, 3) := by decide +kernel
theorem d15_13 : decode prog_33_method_10_code 13 = .ok (.invokestatic 80, 3) := by decide +kernel
theorem pd__Ljava_time_Duration__Lcom_example_even_bucket_evenbucket_Decision_ : parseMethodDescriptor "(Ljava/time/Duration;)Lcom/example/even_bucket/evenbucket/Decision;" = some ⟨[(.object "java/time/Duration")], some (.object "com/example/even_bucket/evenbucket/Decision")⟩ := by decide +kernel
theorem d15_16 : decode prog_33_method_10_code 16 = .ok (.invokestatic 86, 3) := by decide +kernel
theorem d15_19 : decode prog_33_method_10_code 19 = .ok (.areturn, 1) := by decide +kernel
theorem ef15 (m : MethodId) (x0 : Addr) (x1 : Int64) : entryFrame m #[(.ref x0), (.long x1)] 3 = mkF m 0 #[.val (.ref x0), .val (.long x1), .second] [] := by first | (simp [entryFrame, mkF, argsToLocals, Value.category]; done) | rfl
def Q15 (Z : State) (r0 : Addr) (q1 : Int64) (up : Int64) (h0 : Heap) (n0 : Nat) (v : Option Value) (h : Heap) (L : List Loc) : Prop := ∃ bb dd : Addr, v = some (.ref bb) ∧ Fr n0 L ∧ Keep h0 h [] ∧ h0.size ≤ bb ∧ Exa Z h bb "com/example/even_bucket/evenbucket/Decision" ∧ Fld Z h bb "com/example/even_bucket/evenbucket/Decision" "remaining" "J" (.long (0 : Int64)) ∧ Fld Z h bb "com/example/even_bucket/evenbucket/Decision" "retryAfter" "Ljava/time/Duration;" (.ref dd) ∧ Exa Z h dd "java/time/Duration" ∧ Fld Z h dd "java/time/Duration" "seconds" "J" (.long (f_s (up - (0 : Int64)))) ∧ Fld Z h dd "java/time/Duration" "nanos" "I" (.int (f_n (up - (0 : Int64))))
set_option maxRecDepth 65536 in
set_option maxHeartbeats 40000000 in
theorem rm15 (l : Launch) (Z : State) (a0 : Array Value) (hw : ∀ d ∈ tables_1, d.before a0 Z = true) (ws : List Jvm.Cond) (r0 : Addr) (q1 : Int64) (up : Int64) (h0 : Heap) (n0 : Nat) (Z0 : n0 ≤ h0.size) (F0 : Fld Z h0 r0 "com/example/even_bucket/evenbucket/IntervalBucket" "periodMillis" "J" (.long up)) (F1 : Fld Z h0 r0 "com/example/even_bucket/evenbucket/IntervalBucket" "origin" "J" (.long q1)) (hd : 1 ≤ up.toInt) :
    MetFree l (⟨"com/example/even_bucket/evenbucket/IntervalBucket", "refusalAt", "(J)Lcom/example/even_bucket/evenbucket/Decision;"⟩ : MethodName) (head1 (Jvm.Cond.code (⟨"com/example/even_bucket/evenbucket/IntervalBucket", "refusalAt", "(J)Lcom/example/even_bucket/evenbucket/Decision;"⟩ : MethodName) prog_33_method_10_code 3 (some (.object "com/example/even_bucket/evenbucket/Decision")) :: ws) ({ frames := 6, cells := 5, slots := 51, locals := 88 } : Room)) (fun a U => a = #[(.ref r0), (.long q1)] ∧ Z.Warmed39 U.vm ∧ U.heap = h0) (fun _ _ _ _ _ => True) (fun _ U o U' => ∃ v L, o = .returned v ∧ Q15 Z r0 q1 up h0 n0 v U'.heap L ∧ ReturnedEndW U o U' L ({ frames := 6, cells := 5, slots := 51, locals := 88 } : Room).cells ({ frames := 6, cells := 5, slots := 51, locals := 88 } : Room).slots) := by
  refine MetFree.of_bodySF (plainFor_of_name pn_IntervalBucket) hisR ?_
  intro p e s m args below meth c s₁ Bd hml0 hP hK
  obtain ⟨rfl, hZ, hh⟩ := hP
  have hx := Bd.exec
  have hby := Bd.bytes
  have hml : c.maxLocals = 3 := hml0
  have hown : s.vm.findClass "com/example/even_bucket/evenbucket/IntervalBucket" = some m.cls := findClass_of_methodNamed Bd.named
  have hnm := (name_of_methodNamed Bd.named Bd.method).1
  have X0 : Stand p l e ({ frames := 6, cells := 5, slots := 51, locals := 88 } : Room) s m #[(.ref r0), (.long q1)] below meth c s₁ [] 0 0 := Stand.of_body Bd
  have e0 : s₁.heap = h0 := by rw [← hh, Bd.state]; rfl
  have N0 := Fr.nil n0
  have pre0 : ∀ t, Steps p.tables e below (s₁.setTop (mkF m 0 #[.val (.ref r0), .val (.long q1), .second] [])) t → Steps p.tables e below (s₁.setTop (entryFrame m #[(.ref r0), (.long q1)] 3)) t := fun t k => castTop (ef15 m r0 q1) k
  obtain ⟨T138, X138, e138, st138⟩ := getF X0 hx hZ hown (host := "") (Or.inl (hw _ (List.mem_of_getElem? (i := 31) rfl))) Via.refl e0 F1 (g := (mkF m 2 #[.val (.ref r0), .val (.long q1), .second] [(.ref r0), (.long q1)])) rfl rfl (hb hby d15_2)
  obtain ⟨T139, X139, e139, st139⟩ := getF X138 hx hZ hown (host := "") (Or.inl (hw _ (List.mem_of_getElem? (i := 22) rfl))) Via.refl e138 F0 (g := (mkF m 7 #[.val (.ref r0), .val (.long q1), .second] [(.ref r0), (.long (q1 - q1))])) rfl rfl (hb hby d15_7)
  obtain ⟨_, _, ⟨T140, L140, k140, n140⟩, -, X140, ⟨Lc140, hQ140, l140, y140, z140⟩, st140⟩ := Jvm.LawKit.callS X139 hx (y := (⟨"com/example/even_bucket/evenbucket/IntervalBucket", "untilNextRefill", "(JJ)J"⟩ : MethodName)) hown (mvT hZ (hw _ (List.mem_of_getElem? (i := 95) rfl))) (mvT hZ (hw _ (List.mem_of_getElem? (i := 96) rfl))) (mvT hZ (hw _ (List.mem_of_getElem? (i := 11) rfl))) (mvT hZ (hw _ (List.mem_of_getElem? (i := 97) rfl))) (by decide) (backOf (W := 0) (rm16 l Z a0 hw [] (q1 - q1) up h0 n0 Z0 (Int64.sub_self q1) hd) hZ (hw _ (List.mem_of_getElem? (i := 97) rfl)) (hw _ (List.mem_of_getElem? (i := 11) rfl)) (by decide) (by decide)) (g := (mkF m 10 #[.val (.ref r0), .val (.long q1), .second] [(.long up), (.long (q1 - q1))])) rfl (by rw [hml]; rfl) (argsL := [(.long (q1 - q1)), (.long up)]) (rest := []) (lenOf pd__JJ_J rfl) rfl (by show 2 * 0 + _ ≤ _; exact Nat.le_of_eq rfl) (hb hby d15_10) (fun _ _ => ⟨rfl, e139, (by decide : 0 + 0 ≤ _), (by decide : 0 + 0 ≤ _)⟩)
  dsimp only [Pt.U, Pt.locs, Pt.cells, Pt.slots] at X140 l140 y140 z140 st140 hQ140
  subst l140 y140 z140
  obtain ⟨rfl, Nq140, e140⟩ := hQ140
  have N140 := Fr.app N0 Nq140
  obtain ⟨_, _, ⟨T141, L141, k141, n141⟩, -, X141, ⟨Lc141, hQ141, l141, y141, z141⟩, st141⟩ := Jvm.LawKit.callS X140 hx (y := (⟨"java/time/Duration", "ofMillis", "(J)Ljava/time/Duration;"⟩ : MethodName)) hown (mvT hZ (hw _ (List.mem_of_getElem? (i := 101) rfl))) (mvT hZ (hw _ (List.mem_of_getElem? (i := 102) rfl))) (mvT hZ (hw _ (List.mem_of_getElem? (i := 67) rfl))) (mvT hZ (hw _ (List.mem_of_getElem? (i := 103) rfl))) (by decide) (backOf (W := 0) (rm18 l Z a0 hw [] (up - (0 : Int64)) h0 n0 Z0 (by rw [Int64.sub_zero]; exact hd)) hZ (hw _ (List.mem_of_getElem? (i := 103) rfl)) (hw _ (List.mem_of_getElem? (i := 67) rfl)) (by decide) (by decide)) (g := (mkF m 13 #[.val (.ref r0), .val (.long q1), .second] [(.long (up - (0 : Int64)))])) rfl (by rw [hml]; rfl) (argsL := [(.long (up - (0 : Int64)))]) (rest := []) (lenOf pd__J_Ljava_time_Duration_ rfl) rfl (by show 2 * 0 + _ ≤ _; exact Nat.le_of_eq rfl) (hb hby d15_13) (fun _ _ => ⟨rfl, e140, (by decide : 0 + 1 ≤ _), (by decide : 0 + 2 ≤ _)⟩)
  dsimp only [Pt.U, Pt.locs, Pt.cells, Pt.slots] at X141 l141 y141 z141 st141 hQ141
  subst l141 y141 z141
  obtain ⟨bb_141, rfl, Nq141, Kq141, f141_0, f141_1, f141_2, f141_3⟩ := hQ141
  have K142 : Keep h0 T141.heap [] := Kq141
  have N141 := Fr.app N140 Nq141
  have ge_bb_141 : n0 ≤ bb_141 := Nat.le_trans Z0 f141_0
  have sz_bb_141 : h0.size ≤ bb_141 := Nat.le_trans (Nat.le_refl _) f141_0
  obtain ⟨_, _, ⟨T143, L143, k143, n143⟩, -, X143, hS143, gr143, ⟨Lc143, hQ143, l143, y143, z143⟩, st143⟩ := callSS X141 hx (y := (⟨"com/example/even_bucket/evenbucket/Decision", "refuse", "(Ljava/time/Duration;)Lcom/example/even_bucket/evenbucket/Decision;"⟩ : MethodName)) hown (mvT hZ (hw _ (List.mem_of_getElem? (i := 120) rfl))) (mvT hZ (hw _ (List.mem_of_getElem? (i := 121) rfl))) (mvT hZ (hw _ (List.mem_of_getElem? (i := 62) rfl))) (mvT hZ (hw _ (List.mem_of_getElem? (i := 122) rfl))) (by decide) (backOfS (W := 0) (rm21 l Z a0 hw [] bb_141 (f_s (up - (0 : Int64))) (f_n (up - (0 : Int64))) T141.heap n0 (Nat.le_trans Z0 K142.1) f141_2 f141_3 f141_1 (own_hc (by rw [Int64.sub_zero]; exact hd)) (own_hr (by rw [Int64.sub_zero]; exact hd))) hZ (hw _ (List.mem_of_getElem? (i := 122) rfl)) (hw _ (List.mem_of_getElem? (i := 62) rfl)) (by decide) (by decide)) (g := (mkF m 16 #[.val (.ref r0), .val (.long q1), .second] [(.ref bb_141)])) rfl (by rw [hml]; rfl) (argsL := [(.ref bb_141)]) (rest := []) (lenOf pd__Ljava_time_Duration__Lcom_example_even_bucket_evenbucket_Decision_ rfl) rfl (by show 2 * 0 + _ ≤ _; exact Nat.le_of_eq rfl) (hb hby d15_16) (fun _ _ => ⟨rfl, rfl, (by decide : 1 + 4 ≤ _), (by decide : 2 + 49 ≤ _)⟩)
  dsimp only [Pt.U, Pt.locs, Pt.cells, Pt.slots] at X143 l143 y143 z143 st143 hQ143
  subst l143 y143 z143
  dsimp only [Pt.U, Pt.locs, Pt.cells, Pt.slots] at hS143 gr143
  obtain ⟨bb_143, rfl, Nq143, Kq143, f143_0, f143_1, f143_2, f143_3⟩ := hQ143
  have K144 : Keep h0 T143.heap [] := K142.trans Kq143 (fun x hx => by simp at hx)
  have N143 := Fr.app N141 Nq143
  have hZ143 : Z.Warmed39 (s.setVm T143.vm).vm := State.Warmed39.trans (t := s) hZ hS143.1
  have hown143 : (s.setVm T143.vm).vm.findClass "com/example/even_bucket/evenbucket/IntervalBucket" = some m.cls := (hS143.1.alike.findClass _ _).trans hown
  have ge_bb_143 : n0 ≤ bb_143 := Nat.le_trans (Nat.le_trans Z0 K142.1) f143_0
  have sz_bb_143 : h0.size ≤ bb_143 := Nat.le_trans K142.1 f143_0
  obtain ⟨fs, hrT, hrunT, hendT, hRW⟩ := X143.leaveW (hlocks := BodyLoose.notSynchronized Bd) hS143 (v := some (.ref bb_143)) (Nat.le_refl _) (fun h => by rw [Bd.returns] at h; cases h)
  refine ⟨_, _, pre0 _ ?_, hrunT, hendT, _, _, rfl, ?_, hRW.1, hRW.2.1, hRW.2.2.1, hRW.2.2.2.mono (by decide) (by decide)⟩
  · show Steps p.tables e below (s₁.setTop (mkF m 0 #[.val (.ref r0), .val (.long q1), .second] [])) _
    refine XS.lloadN X0.here hx rfl (hb hby d15_0) rfl ?_
    show Steps p.tables e below (s₁.setTop (mkF m 1 #[.val (.ref r0), .val (.long q1), .second] [(.long q1)])) _
    refine XS.aloadN X0.here hx rfl (hb hby d15_1) rfl rfl ?_
    show Steps p.tables e below (s₁.setTop (mkF m 2 #[.val (.ref r0), .val (.long q1), .second] [(.ref r0), (.long q1)])) _
    refine st138 _ ?_
    show Steps p.tables e below (T138.setTop (mkF m 5 #[.val (.ref r0), .val (.long q1), .second] [(.long q1), (.long q1)])) _
    refine XS.lsub X138.here hx rfl (hb hby d15_5) rfl ?_
    show Steps p.tables e below (T138.setTop (mkF m 6 #[.val (.ref r0), .val (.long q1), .second] [(.long (q1 - q1))])) _
    refine XS.aloadN X138.here hx rfl (hb hby d15_6) rfl rfl ?_
    show Steps p.tables e below (T138.setTop (mkF m 7 #[.val (.ref r0), .val (.long q1), .second] [(.ref r0), (.long (q1 - q1))])) _
    refine st139 _ ?_
    show Steps p.tables e below (T139.setTop (mkF m 10 #[.val (.ref r0), .val (.long q1), .second] [(.long up), (.long (q1 - q1))])) _
    refine st140 _ ?_
    show Steps p.tables e below (T140.setTop (mkF m 13 #[.val (.ref r0), .val (.long q1), .second] [(.long (up - (0 : Int64)))])) _
    refine st141 _ ?_
    show Steps p.tables e below (T141.setTop (mkF m 16 #[.val (.ref r0), .val (.long q1), .second] [(.ref bb_141)])) _
    refine st143.trans ?_
    show Steps p.tables e below (T143.setTop (mkF m 19 #[.val (.ref r0), .val (.long q1), .second] [(.ref bb_143)])) _
    exact retOut X143 hx Bd.returns rfl (by right; right; right; right; exact ⟨rfl, rfl, rfl⟩) (hb hby d15_19) hrT
  · show Q15 Z r0 q1 up h0 n0 _ T143.heap _
    have c145 : Exa Z T143.heap bb_141 "java/time/Duration" := (f141_1.keep Kq143)
    have c146 : Fld Z T143.heap bb_141 "java/time/Duration" "seconds" "J" (.long (f_s (up - (0 : Int64)))) := (f141_2.keep Kq143 List.not_mem_nil)
    have c147 : Fld Z T143.heap bb_141 "java/time/Duration" "nanos" "I" (.int (f_n (up - (0 : Int64)))) := (f141_3.keep Kq143 List.not_mem_nil)
    exact ⟨bb_143, bb_141, rfl, N143, K144, sz_bb_143, f143_1, f143_2, f143_3, c145, c146, c147⟩
theorem d5_0 : decode prog_33_method_3_code 0 = .ok (.aload_n 0, 1) := by decide +kernel
theorem d5_1 : decode prog_33_method_3_code 1 = .ok (.getfield 26, 3) := by decide +kernel
theorem d5_4 : decode prog_33_method_3_code 4 = .ok (.ifCond .ne 27, 3) := by decide +kernel
theorem d5_7 : decode prog_33_method_3_code 7 = .ok (.aload_n 0, 1) := by decide +kernel
theorem d5_8 : decode prog_33_method_3_code 8 = .ok (.lload_n 1, 1) := by decide +kernel
theorem d5_9 : decode prog_33_method_3_code 9 = .ok (.putfield 30, 3) := by decide +kernel
theorem d5_12 : decode prog_33_method_3_code 12 = .ok (.aload_n 0, 1) := by decide +kernel
theorem d5_13 : decode prog_33_method_3_code 13 = .ok (.lload_n 1, 1) := by decide +kernel
theorem d5_14 : decode prog_33_method_3_code 14 = .ok (.putfield 33, 3) := by decide +kernel
theorem d5_17 : decode prog_33_method_3_code 17 = .ok (.aload_n 0, 1) := by decide +kernel
theorem d5_18 : decode prog_33_method_3_code 18 = .ok (.aload_n 0, 1) := by decide +kernel
theorem d5_19 : decode prog_33_method_3_code 19 = .ok (.getfield 7, 3) := by decide +kernel
theorem d5_22 : decode prog_33_method_3_code 22 = .ok (.i2l, 1) := by decide +kernel
theorem d5_23 : decode prog_33_method_3_code 23 = .ok (.putfield 36, 3) := by decide +kernel
theorem d5_26 : decode prog_33_method_3_code 26 = .ok (.aload_n 0, 1) := by decide +kernel
theorem d5_27 : decode prog_33_method_3_code 27 = .ok (.iconst 1, 1) := by decide +kernel
theorem d5_28 : decode prog_33_method_3_code 28 = .ok (.putfield 26, 3) := by decide +kernel
theorem d5_31 : decode prog_33_method_3_code 31 = .ok (.lload_n 1, 1) := by decide +kernel
theorem d5_32 : decode prog_33_method_3_code 32 = .ok (.aload_n 0, 1) := by decide +kernel
theorem d5_33 : decode prog_33_method_3_code 33 = .ok (.getfield 33, 3) := by decide +kernel
theorem d5_36 : decode prog_33_method_3_code 36 = .ok (.invokestatic 39, 3) := by decide +kernel
theorem d5_39 : decode prog_33_method_3_code 39 = .ok (.lstore_n 3, 1) := by decide +kernel
theorem d5_40 : decode prog_33_method_3_code 40 = .ok (.aload_n 0, 1) := by decide +kernel
theorem d5_41 : decode prog_33_method_3_code 41 = .ok (.lload_n 3, 1) := by decide +kernel
theorem d5_42 : decode prog_33_method_3_code 42 = .ok (.putfield 44, 3) := by decide +kernel
theorem d5_45 : decode prog_33_method_3_code 45 = .ok (.aload_n 0, 1) := by decide +kernel
theorem d5_46 : decode prog_33_method_3_code 46 = .ok (.lload_n 3, 1) := by decide +kernel
theorem d5_47 : decode prog_33_method_3_code 47 = .ok (.invokevirtual 47, 3) := by decide +kernel
theorem d5_50 : decode prog_33_method_3_code 50 = .ok (.lstore 5, 2) := by decide +kernel
theorem d5_52 : decode prog_33_method_3_code 52 = .ok (.lload 5, 2) := by decide +kernel
theorem d5_54 : decode prog_33_method_3_code 54 = .ok (.lconst 0, 1) := by decide +kernel
theorem d5_55 : decode prog_33_method_3_code 55 = .ok (.lcmp, 1) := by decide +kernel
theorem d5_56 : decode prog_33_method_3_code 56 = .ok (.ifCond .ne 9, 3) := by decide +kernel
theorem d5_65 : decode prog_33_method_3_code 65 = .ok (.aload_n 0, 1) := by decide +kernel
theorem d5_66 : decode prog_33_method_3_code 66 = .ok (.lload 5, 2) := by decide +kernel
theorem d5_68 : decode prog_33_method_3_code 68 = .ok (.lconst 1, 1) := by decide +kernel
theorem d5_69 : decode prog_33_method_3_code 69 = .ok (.lsub, 1) := by decide +kernel
theorem d5_70 : decode prog_33_method_3_code 70 = .ok (.putfield 36, 3) := by decide +kernel
theorem d5_73 : decode prog_33_method_3_code 73 = .ok (.aload_n 0, 1) := by decide +kernel
theorem d5_74 : decode prog_33_method_3_code 74 = .ok (.lload_n 3, 1) := by decide +kernel
theorem d5_75 : decode prog_33_method_3_code 75 = .ok (.putfield 33, 3) := by decide +kernel
theorem d5_78 : decode prog_33_method_3_code 78 = .ok (.aload_n 0, 1) := by decide +kernel
theorem d5_79 : decode prog_33_method_3_code 79 = .ok (.getfield 36, 3) := by decide +kernel
theorem pd__J_Lcom_example_even_bucket_evenbucket_Decision_ : parseMethodDescriptor "(J)Lcom/example/even_bucket/evenbucket/Decision;" = some ⟨[.long], some (.object "com/example/even_bucket/evenbucket/Decision")⟩ := by decide +kernel
theorem d5_82 : decode prog_33_method_3_code 82 = .ok (.invokestatic 55, 3) := by decide +kernel
theorem d5_85 : decode prog_33_method_3_code 85 = .ok (.areturn, 1) := by decide +kernel
theorem eftA (m : MethodId) (x0 : Addr) (x1 : Int64) : entryFrame m #[(.ref x0), (.long x1)] 7 = mkF m 0 #[.val (.ref x0), .val (.long x1), .second, .unset, .unset, .unset, .unset] [] := by first | (simp [entryFrame, mkF, argsToLocals, Value.category]; done) | rfl
def QtA (Z : State) (r0 : Addr) (q1 : Int64) (uc : Int32) (ur : Int32) (up : Int64) (vz : Addr) (h0 : Heap) (n0 : Nat) (v : Option Value) (h : Heap) (L : List Loc) : Prop := ∃ bb : Addr, v = some (.ref bb) ∧ Fr n0 L ∧ Keep h0 h [r0] ∧ Fld Z h r0 "com/example/even_bucket/evenbucket/IntervalBucket" "capacity" "I" (.int uc) ∧ Fld Z h r0 "com/example/even_bucket/evenbucket/IntervalBucket" "refill" "I" (.int ur) ∧ Fld Z h r0 "com/example/even_bucket/evenbucket/IntervalBucket" "periodMillis" "J" (.long up) ∧ Fld Z h r0 "com/example/even_bucket/evenbucket/IntervalBucket" "permits" "J" (.long ((uc.toInt64) - (1 : Int64))) ∧ Fld Z h r0 "com/example/even_bucket/evenbucket/IntervalBucket" "origin" "J" (.long q1) ∧ Fld Z h r0 "com/example/even_bucket/evenbucket/IntervalBucket" "newest" "J" (.long q1) ∧ Fld Z h r0 "com/example/even_bucket/evenbucket/IntervalBucket" "admitted" "Z" (.int (1 : Int32)) ∧ Fld Z h r0 "com/example/even_bucket/evenbucket/IntervalBucket" "decidedAt" "J" (.long q1)
set_option maxRecDepth 65536 in
set_option maxHeartbeats 40000000 in
theorem rmtA (l : Launch) (Z : State) (a0 : Array Value) (hw : ∀ d ∈ tables_1, d.before a0 Z = true) (ws : List Jvm.Cond) (r0 : Addr) (q1 : Int64) (uc : Int32) (ur : Int32) (up : Int64) (vz : Addr) (h0 : Heap) (n0 : Nat) (Z0 : n0 ≤ h0.size) (F0 : Fld Z h0 r0 "com/example/even_bucket/evenbucket/IntervalBucket" "capacity" "I" (.int uc)) (F1 : Fld Z h0 r0 "com/example/even_bucket/evenbucket/IntervalBucket" "refill" "I" (.int ur)) (F2 : Fld Z h0 r0 "com/example/even_bucket/evenbucket/IntervalBucket" "periodMillis" "J" (.long up)) (F3 : Fld Z h0 r0 "com/example/even_bucket/evenbucket/IntervalBucket" "permits" "J" (.long (0 : Int64))) (F4 : Fld Z h0 r0 "com/example/even_bucket/evenbucket/IntervalBucket" "origin" "J" (.long (0 : Int64))) (F5 : Fld Z h0 r0 "com/example/even_bucket/evenbucket/IntervalBucket" "newest" "J" (.long (0 : Int64))) (F6 : Fld Z h0 r0 "com/example/even_bucket/evenbucket/IntervalBucket" "admitted" "Z" (.int (0 : Int32))) (F7 : Fld Z h0 r0 "com/example/even_bucket/evenbucket/IntervalBucket" "decidedAt" "J" (.long (0 : Int64))) (E1 : Exa Z h0 r0 "com/example/even_bucket/evenbucket/IntervalBucket") (g1 : n0 ≤ r0) (hd : 1 ≤ up.toInt) (hr : 1 ≤ ur.toInt) (Sz : Sta Z h0 "java/time/Duration" "ZERO" "Ljava/time/Duration;" (.ref vz)) (hA : f_pa uc (uc.toInt64) ur = (uc.toInt64)) (hc : ¬ (uc.toInt64) = (0 : Int64)) (hn : ¬ ((uc.toInt64) - (1 : Int64)) < (0 : Int64)) :
    MetFree l (⟨"com/example/even_bucket/evenbucket/IntervalBucket", "tryAcquire", "(J)Lcom/example/even_bucket/evenbucket/Decision;"⟩ : MethodName) (head1 (Jvm.Cond.code (⟨"com/example/even_bucket/evenbucket/IntervalBucket", "tryAcquire", "(J)Lcom/example/even_bucket/evenbucket/Decision;"⟩ : MethodName) prog_33_method_3_code 7 (some (.object "com/example/even_bucket/evenbucket/Decision")) :: ws) ({ frames := 3, cells := 1, slots := 3, locals := 53 } : Room)) (fun a U => a = #[(.ref r0), (.long q1)] ∧ Z.Warmed39 U.vm ∧ U.heap = h0) (fun _ _ _ _ _ => True) (fun _ U o U' => ∃ v L, o = .returned v ∧ QtA Z r0 q1 uc ur up vz h0 n0 v U'.heap L ∧ FrameEnd U o U' L ({ frames := 3, cells := 1, slots := 3, locals := 53 } : Room).cells ({ frames := 3, cells := 1, slots := 3, locals := 53 } : Room).slots) := by
  refine MetFree.of_bodySF (plainFor_of_name pn_IntervalBucket) hisR ?_
  intro p e s m args below meth c s₁ Bd hml0 hP hK
  obtain ⟨rfl, hZ, hh⟩ := hP
  have hx := Bd.exec
  have hby := Bd.bytes
  have hml : c.maxLocals = 7 := hml0
  have hown : s.vm.findClass "com/example/even_bucket/evenbucket/IntervalBucket" = some m.cls := findClass_of_methodNamed Bd.named
  have hnm := (name_of_methodNamed Bd.named Bd.method).1
  have X0 : Stand p l e ({ frames := 3, cells := 1, slots := 3, locals := 53 } : Room) s m #[(.ref r0), (.long q1)] below meth c s₁ [] 0 0 := Stand.of_body Bd
  have e0 : s₁.heap = h0 := by rw [← hh, Bd.state]; rfl
  have N0 := Fr.nil n0
  have pre0 : ∀ t, Steps p.tables e below (s₁.setTop (mkF m 0 #[.val (.ref r0), .val (.long q1), .second, .unset, .unset, .unset, .unset] [])) t → Steps p.tables e below (s₁.setTop (entryFrame m #[(.ref r0), (.long q1)] 7)) t := fun t k => castTop (eftA m r0 q1) k
  obtain ⟨T148, X148, e148, st148⟩ := getF X0 hx hZ hown (host := "") (Or.inl (hw _ (List.mem_of_getElem? (i := 29) rfl))) Via.refl e0 F6 (g := (mkF m 1 #[.val (.ref r0), .val (.long q1), .second, .unset, .unset, .unset, .unset] [(.ref r0)])) rfl rfl (hb hby d5_1)
  obtain ⟨T149, h149, X149, e149, W149, st149⟩ := putF X148 hx hZ hown (host := "") (Or.inl (hw _ (List.mem_of_getElem? (i := 31) rfl))) Via.refl e148 F4 E1 (Or.inl (hw _ (List.mem_of_getElem? (i := 32) rfl))) (hw _ (List.mem_of_getElem? (i := 10) rfl)) (ty := .long) (by decide) rfl rfl (g := (mkF m 9 #[.val (.ref r0), .val (.long q1), .second, .unset, .unset, .unset, .unset] [(.long q1), (.ref r0)])) rfl rfl (hb hby d5_9)
  have K150 : Keep h0 h149 [r0] := (Keep.refl h0 [r0]).wr W149 (Or.inl (List.mem_of_getElem? (i := 0) rfl))
  have c151 : Fld Z h149 r0 "com/example/even_bucket/evenbucket/IntervalBucket" "origin" "J" (.long q1) := F4.same W149
  have N152 := Fr.snoc X149 N0 g1
  have c153 : Exa Z h149 r0 "com/example/even_bucket/evenbucket/IntervalBucket" := (E1.wr W149)
  have c154 : Fld Z h149 r0 "com/example/even_bucket/evenbucket/IntervalBucket" "newest" "J" (.long (0 : Int64)) := (F5.other W149 (Or.inr (slot_ne (Or.inl (hw _ (List.mem_of_getElem? (i := 34) rfl))) (Or.inl (hw _ (List.mem_of_getElem? (i := 32) rfl))) (by decide) (t := .long) (t' := .long) (by decide) (by decide))))
  obtain ⟨T155, h155, X155, e155, W155, st155⟩ := putF X149 hx hZ hown (host := "") (Or.inl (hw _ (List.mem_of_getElem? (i := 33) rfl))) Via.refl e149 c154 c153 (Or.inl (hw _ (List.mem_of_getElem? (i := 34) rfl))) (hw _ (List.mem_of_getElem? (i := 10) rfl)) (ty := .long) (by decide) rfl rfl (g := (mkF m 14 #[.val (.ref r0), .val (.long q1), .second, .unset, .unset, .unset, .unset] [(.long q1), (.ref r0)])) rfl rfl (hb hby d5_14)
  have K156 : Keep h0 h155 [r0] := K150.wr W155 (Or.inl (List.mem_of_getElem? (i := 0) rfl))
  have c157 : Fld Z h155 r0 "com/example/even_bucket/evenbucket/IntervalBucket" "newest" "J" (.long q1) := c154.same W155
  have N158 := Fr.snoc X155 N152 g1
  have c159 : Fld Z h155 r0 "com/example/even_bucket/evenbucket/IntervalBucket" "capacity" "I" (.int uc) := ((F0.other W149 (Or.inr (slot_ne (Or.inr (hw _ (List.mem_of_getElem? (i := 19) rfl))) (Or.inl (hw _ (List.mem_of_getElem? (i := 32) rfl))) (by decide) (t := .int) (t' := .long) (by decide) (by decide)))).other W155 (Or.inr (slot_ne (Or.inr (hw _ (List.mem_of_getElem? (i := 19) rfl))) (Or.inl (hw _ (List.mem_of_getElem? (i := 34) rfl))) (by decide) (t := .int) (t' := .long) (by decide) (by decide))))
  obtain ⟨T160, X160, e160, st160⟩ := getF X155 hx hZ hown (host := "") (Or.inl (hw _ (List.mem_of_getElem? (i := 18) rfl))) Via.refl e155 c159 (g := (mkF m 19 #[.val (.ref r0), .val (.long q1), .second, .unset, .unset, .unset, .unset] [(.ref r0), (.ref r0)])) rfl rfl (hb hby d5_19)
  have c161 : Exa Z h155 r0 "com/example/even_bucket/evenbucket/IntervalBucket" := (c153.wr W155)
  have c162 : Fld Z h155 r0 "com/example/even_bucket/evenbucket/IntervalBucket" "permits" "J" (.long (0 : Int64)) := ((F3.other W149 (Or.inr (slot_ne (Or.inl (hw _ (List.mem_of_getElem? (i := 36) rfl))) (Or.inl (hw _ (List.mem_of_getElem? (i := 32) rfl))) (by decide) (t := .long) (t' := .long) (by decide) (by decide)))).other W155 (Or.inr (slot_ne (Or.inl (hw _ (List.mem_of_getElem? (i := 36) rfl))) (Or.inl (hw _ (List.mem_of_getElem? (i := 34) rfl))) (by decide) (t := .long) (t' := .long) (by decide) (by decide))))
  obtain ⟨T163, h163, X163, e163, W163, st163⟩ := putF X160 hx hZ hown (host := "") (Or.inl (hw _ (List.mem_of_getElem? (i := 35) rfl))) Via.refl e160 c162 c161 (Or.inl (hw _ (List.mem_of_getElem? (i := 36) rfl))) (hw _ (List.mem_of_getElem? (i := 10) rfl)) (ty := .long) (by decide) rfl rfl (g := (mkF m 23 #[.val (.ref r0), .val (.long q1), .second, .unset, .unset, .unset, .unset] [(.long (uc.toInt64)), (.ref r0)])) rfl rfl (hb hby d5_23)
  have K164 : Keep h0 h163 [r0] := K156.wr W163 (Or.inl (List.mem_of_getElem? (i := 0) rfl))
  have c165 : Fld Z h163 r0 "com/example/even_bucket/evenbucket/IntervalBucket" "permits" "J" (.long (uc.toInt64)) := c162.same W163
  have N166 := Fr.snoc X163 N158 g1
  have c167 : Exa Z h163 r0 "com/example/even_bucket/evenbucket/IntervalBucket" := (c161.wr W163)
  have c168 : Fld Z h163 r0 "com/example/even_bucket/evenbucket/IntervalBucket" "admitted" "Z" (.int (0 : Int32)) := (((F6.other W149 (Or.inr (slot_ne (Or.inl (hw _ (List.mem_of_getElem? (i := 30) rfl))) (Or.inl (hw _ (List.mem_of_getElem? (i := 32) rfl))) (by decide) (t := .boolean) (t' := .long) (by decide) (by decide)))).other W155 (Or.inr (slot_ne (Or.inl (hw _ (List.mem_of_getElem? (i := 30) rfl))) (Or.inl (hw _ (List.mem_of_getElem? (i := 34) rfl))) (by decide) (t := .boolean) (t' := .long) (by decide) (by decide)))).other W163 (Or.inr (slot_ne (Or.inl (hw _ (List.mem_of_getElem? (i := 30) rfl))) (Or.inl (hw _ (List.mem_of_getElem? (i := 36) rfl))) (by decide) (t := .boolean) (t' := .long) (by decide) (by decide))))
  obtain ⟨T169, h169, X169, e169, W169, st169⟩ := putFN X163 hx hZ hown (hw _ (List.mem_of_getElem? (i := 29) rfl)) Via.refl e163 c168 c167 (Or.inl (hw _ (List.mem_of_getElem? (i := 30) rfl))) (hw _ (List.mem_of_getElem? (i := 10) rfl)) (ty := .boolean) (v' := (.int (1 : Int32))) (by decide) (by decide) (by decide) (g := (mkF m 28 #[.val (.ref r0), .val (.long q1), .second, .unset, .unset, .unset, .unset] [(.int (1 : Int32)), (.ref r0)])) rfl rfl (hb hby d5_28)
  have K170 : Keep h0 h169 [r0] := K164.wr W169 (Or.inl (List.mem_of_getElem? (i := 0) rfl))
  have c171 : Fld Z h169 r0 "com/example/even_bucket/evenbucket/IntervalBucket" "admitted" "Z" (.int (1 : Int32)) := c168.same W169
  have N172 := Fr.snoc X169 N166 g1
  have c173 : Fld Z h169 r0 "com/example/even_bucket/evenbucket/IntervalBucket" "newest" "J" (.long q1) := ((c157.other W163 (Or.inr (slot_ne (Or.inl (hw _ (List.mem_of_getElem? (i := 34) rfl))) (Or.inl (hw _ (List.mem_of_getElem? (i := 36) rfl))) (by decide) (t := .long) (t' := .long) (by decide) (by decide)))).other W169 (Or.inr (slot_ne (Or.inl (hw _ (List.mem_of_getElem? (i := 34) rfl))) (Or.inl (hw _ (List.mem_of_getElem? (i := 30) rfl))) (by decide) (t := .long) (t' := .boolean) (by decide) (by decide))))
  obtain ⟨T174, X174, e174, st174⟩ := getF X169 hx hZ hown (host := "") (Or.inl (hw _ (List.mem_of_getElem? (i := 33) rfl))) Via.refl e169 c173 (g := (mkF m 33 #[.val (.ref r0), .val (.long q1), .second, .unset, .unset, .unset, .unset] [(.ref r0), (.long q1)])) rfl rfl (hb hby d5_33)
  obtain ⟨_, _, ⟨T175, L175, k175, n175⟩, -, X175, ⟨Lc175, hQ175, l175, y175, z175⟩, st175⟩ := Jvm.LawKit.callS X174 hx (y := (⟨"java/lang/Math", "max", "(JJ)J"⟩ : MethodName)) hown (mvT hZ (hw _ (List.mem_of_getElem? (i := 37) rfl))) (mvT hZ (hw _ (List.mem_of_getElem? (i := 7) rfl))) (mvT hZ (hw _ (List.mem_of_getElem? (i := 3) rfl))) (mvT hZ (hw _ (List.mem_of_getElem? (i := 8) rfl))) (by decide) (backOf (W := 0) (rm2 l Z a0 hw [] q1 q1 h169 n0 (Nat.le_trans Z0 K170.1) ) hZ (hw _ (List.mem_of_getElem? (i := 8) rfl)) (hw _ (List.mem_of_getElem? (i := 3) rfl)) (by decide) (by decide)) (g := (mkF m 36 #[.val (.ref r0), .val (.long q1), .second, .unset, .unset, .unset, .unset] [(.long q1), (.long q1)])) rfl (by rw [hml]; rfl) (argsL := [(.long q1), (.long q1)]) (rest := []) (lenOf pd__JJ_J rfl) rfl (by show 2 * 0 + _ ≤ _; exact Nat.le_of_eq rfl) (hb hby d5_36) (fun _ _ => ⟨rfl, e174, (by decide : 0 + 0 ≤ _), (by decide : 0 + 0 ≤ _)⟩)
  dsimp only [Pt.U, Pt.locs, Pt.cells, Pt.slots] at X175 l175 y175 z175 st175 hQ175
  subst l175 y175 z175
  obtain ⟨rfl, Nq175, e175⟩ := hQ175
  have N175 := Fr.app N172 Nq175
  have S176 : ∀ t, Steps p.tables e below (T175.setTop (mkF m 40 #[.val (.ref r0), .val (.long q1), .second, .val (.long (f_maxL q1 q1)), .second, .unset, .unset] [])) t → Steps p.tables e below (s₁.setTop (entryFrame m #[(.ref r0), (.long q1)] 7)) t := by
    intro t kt
    refine pre0 _ ?_
    show Steps p.tables e below (s₁.setTop (mkF m 0 #[.val (.ref r0), .val (.long q1), .second, .unset, .unset, .unset, .unset] [])) _
    refine XS.aloadN X0.here hx rfl (hb hby d5_0) rfl rfl ?_
    show Steps p.tables e below (s₁.setTop (mkF m 1 #[.val (.ref r0), .val (.long q1), .second, .unset, .unset, .unset, .unset] [(.ref r0)])) _
    refine st148 _ ?_
    show Steps p.tables e below (T148.setTop (mkF m 4 #[.val (.ref r0), .val (.long q1), .second, .unset, .unset, .unset, .unset] [(.int (0 : Int32))])) _
    refine XS.ifNo X148.here hx rfl (hb hby d5_4) rfl (XT.i0_ne_f (by decide)) ?_
    show Steps p.tables e below (T148.setTop (mkF m 7 #[.val (.ref r0), .val (.long q1), .second, .unset, .unset, .unset, .unset] [])) _
    refine XS.aloadN X148.here hx rfl (hb hby d5_7) rfl rfl ?_
    show Steps p.tables e below (T148.setTop (mkF m 8 #[.val (.ref r0), .val (.long q1), .second, .unset, .unset, .unset, .unset] [(.ref r0)])) _
    refine XS.lloadN X148.here hx rfl (hb hby d5_8) rfl ?_
    show Steps p.tables e below (T148.setTop (mkF m 9 #[.val (.ref r0), .val (.long q1), .second, .unset, .unset, .unset, .unset] [(.long q1), (.ref r0)])) _
    refine st149 _ ?_
    show Steps p.tables e below (T149.setTop (mkF m 12 #[.val (.ref r0), .val (.long q1), .second, .unset, .unset, .unset, .unset] [])) _
    refine XS.aloadN X149.here hx rfl (hb hby d5_12) rfl rfl ?_
    show Steps p.tables e below (T149.setTop (mkF m 13 #[.val (.ref r0), .val (.long q1), .second, .unset, .unset, .unset, .unset] [(.ref r0)])) _
    refine XS.lloadN X149.here hx rfl (hb hby d5_13) rfl ?_
    show Steps p.tables e below (T149.setTop (mkF m 14 #[.val (.ref r0), .val (.long q1), .second, .unset, .unset, .unset, .unset] [(.long q1), (.ref r0)])) _
    refine st155 _ ?_
    show Steps p.tables e below (T155.setTop (mkF m 17 #[.val (.ref r0), .val (.long q1), .second, .unset, .unset, .unset, .unset] [])) _
    refine XS.aloadN X155.here hx rfl (hb hby d5_17) rfl rfl ?_
    show Steps p.tables e below (T155.setTop (mkF m 18 #[.val (.ref r0), .val (.long q1), .second, .unset, .unset, .unset, .unset] [(.ref r0)])) _
    refine XS.aloadN X155.here hx rfl (hb hby d5_18) rfl rfl ?_
    show Steps p.tables e below (T155.setTop (mkF m 19 #[.val (.ref r0), .val (.long q1), .second, .unset, .unset, .unset, .unset] [(.ref r0), (.ref r0)])) _
    refine st160 _ ?_
    show Steps p.tables e below (T160.setTop (mkF m 22 #[.val (.ref r0), .val (.long q1), .second, .unset, .unset, .unset, .unset] [(.int uc), (.ref r0)])) _
    refine XS.i2l X160.here hx rfl (hb hby d5_22) rfl ?_
    show Steps p.tables e below (T160.setTop (mkF m 23 #[.val (.ref r0), .val (.long q1), .second, .unset, .unset, .unset, .unset] [(.long (uc.toInt64)), (.ref r0)])) _
    refine st163 _ ?_
    show Steps p.tables e below (T163.setTop (mkF m 26 #[.val (.ref r0), .val (.long q1), .second, .unset, .unset, .unset, .unset] [])) _
    refine XS.aloadN X163.here hx rfl (hb hby d5_26) rfl rfl ?_
    show Steps p.tables e below (T163.setTop (mkF m 27 #[.val (.ref r0), .val (.long q1), .second, .unset, .unset, .unset, .unset] [(.ref r0)])) _
    refine XS.iconst X163.here hx rfl (hb hby d5_27) ?_
    show Steps p.tables e below (T163.setTop (mkF m 28 #[.val (.ref r0), .val (.long q1), .second, .unset, .unset, .unset, .unset] [(.int (1 : Int32)), (.ref r0)])) _
    refine st169 _ ?_
    show Steps p.tables e below (T169.setTop (mkF m 31 #[.val (.ref r0), .val (.long q1), .second, .unset, .unset, .unset, .unset] [])) _
    refine XS.lloadN X169.here hx rfl (hb hby d5_31) rfl ?_
    show Steps p.tables e below (T169.setTop (mkF m 32 #[.val (.ref r0), .val (.long q1), .second, .unset, .unset, .unset, .unset] [(.long q1)])) _
    refine XS.aloadN X169.here hx rfl (hb hby d5_32) rfl rfl ?_
    show Steps p.tables e below (T169.setTop (mkF m 33 #[.val (.ref r0), .val (.long q1), .second, .unset, .unset, .unset, .unset] [(.ref r0), (.long q1)])) _
    refine st174 _ ?_
    show Steps p.tables e below (T174.setTop (mkF m 36 #[.val (.ref r0), .val (.long q1), .second, .unset, .unset, .unset, .unset] [(.long q1), (.long q1)])) _
    refine st175 _ ?_
    show Steps p.tables e below (T175.setTop (mkF m 39 #[.val (.ref r0), .val (.long q1), .second, .unset, .unset, .unset, .unset] [(.long (f_maxL q1 q1))])) _
    refine XS.lstoreN X175.here hx rfl (hb hby d5_39) rfl (l' := #[.val (.ref r0), .val (.long q1), .second, .val (.long (f_maxL q1 q1)), .second, .unset, .unset]) rfl ?_
    exact kt
  rw [(own_max q1 : (f_maxL q1 q1) = q1)] at S176
  have c177 : Exa Z h169 r0 "com/example/even_bucket/evenbucket/IntervalBucket" := (c167.wr W169)
  have c178 : Fld Z h169 r0 "com/example/even_bucket/evenbucket/IntervalBucket" "decidedAt" "J" (.long (0 : Int64)) := ((((F7.other W149 (Or.inr (slot_ne (Or.inl (hw _ (List.mem_of_getElem? (i := 39) rfl))) (Or.inl (hw _ (List.mem_of_getElem? (i := 32) rfl))) (by decide) (t := .long) (t' := .long) (by decide) (by decide)))).other W155 (Or.inr (slot_ne (Or.inl (hw _ (List.mem_of_getElem? (i := 39) rfl))) (Or.inl (hw _ (List.mem_of_getElem? (i := 34) rfl))) (by decide) (t := .long) (t' := .long) (by decide) (by decide)))).other W163 (Or.inr (slot_ne (Or.inl (hw _ (List.mem_of_getElem? (i := 39) rfl))) (Or.inl (hw _ (List.mem_of_getElem? (i := 36) rfl))) (by decide) (t := .long) (t' := .long) (by decide) (by decide)))).other W169 (Or.inr (slot_ne (Or.inl (hw _ (List.mem_of_getElem? (i := 39) rfl))) (Or.inl (hw _ (List.mem_of_getElem? (i := 30) rfl))) (by decide) (t := .long) (t' := .boolean) (by decide) (by decide))))
  obtain ⟨T179, h179, X179, e179, W179, st179⟩ := putF X175 hx hZ hown (host := "") (Or.inl (hw _ (List.mem_of_getElem? (i := 38) rfl))) Via.refl e175 c178 c177 (Or.inl (hw _ (List.mem_of_getElem? (i := 39) rfl))) (hw _ (List.mem_of_getElem? (i := 10) rfl)) (ty := .long) (by decide) rfl rfl (g := (mkF m 42 #[.val (.ref r0), .val (.long q1), .second, .val (.long q1), .second, .unset, .unset] [(.long q1), (.ref r0)])) rfl rfl (hb hby d5_42)
  have K180 : Keep h0 h179 [r0] := K170.wr W179 (Or.inl (List.mem_of_getElem? (i := 0) rfl))
  have c181 : Fld Z h179 r0 "com/example/even_bucket/evenbucket/IntervalBucket" "decidedAt" "J" (.long q1) := c178.same W179
  have N182 := Fr.snoc X179 N175 g1
  have c184 : Fld Z h179 r0 "com/example/even_bucket/evenbucket/IntervalBucket" "capacity" "I" (.int uc) := (((c159.other W163 (Or.inr (slot_ne (Or.inr (hw _ (List.mem_of_getElem? (i := 19) rfl))) (Or.inl (hw _ (List.mem_of_getElem? (i := 36) rfl))) (by decide) (t := .int) (t' := .long) (by decide) (by decide)))).other W169 (Or.inr (slot_ne (Or.inr (hw _ (List.mem_of_getElem? (i := 19) rfl))) (Or.inl (hw _ (List.mem_of_getElem? (i := 30) rfl))) (by decide) (t := .int) (t' := .boolean) (by decide) (by decide)))).other W179 (Or.inr (slot_ne (Or.inr (hw _ (List.mem_of_getElem? (i := 19) rfl))) (Or.inl (hw _ (List.mem_of_getElem? (i := 39) rfl))) (by decide) (t := .int) (t' := .long) (by decide) (by decide))))
  have c185 : Fld Z h179 r0 "com/example/even_bucket/evenbucket/IntervalBucket" "refill" "I" (.int ur) := (((((F1.other W149 (Or.inr (slot_ne (Or.inr (hw _ (List.mem_of_getElem? (i := 21) rfl))) (Or.inl (hw _ (List.mem_of_getElem? (i := 32) rfl))) (by decide) (t := .int) (t' := .long) (by decide) (by decide)))).other W155 (Or.inr (slot_ne (Or.inr (hw _ (List.mem_of_getElem? (i := 21) rfl))) (Or.inl (hw _ (List.mem_of_getElem? (i := 34) rfl))) (by decide) (t := .int) (t' := .long) (by decide) (by decide)))).other W163 (Or.inr (slot_ne (Or.inr (hw _ (List.mem_of_getElem? (i := 21) rfl))) (Or.inl (hw _ (List.mem_of_getElem? (i := 36) rfl))) (by decide) (t := .int) (t' := .long) (by decide) (by decide)))).other W169 (Or.inr (slot_ne (Or.inr (hw _ (List.mem_of_getElem? (i := 21) rfl))) (Or.inl (hw _ (List.mem_of_getElem? (i := 30) rfl))) (by decide) (t := .int) (t' := .boolean) (by decide) (by decide)))).other W179 (Or.inr (slot_ne (Or.inr (hw _ (List.mem_of_getElem? (i := 21) rfl))) (Or.inl (hw _ (List.mem_of_getElem? (i := 39) rfl))) (by decide) (t := .int) (t' := .long) (by decide) (by decide))))
  have c186 : Fld Z h179 r0 "com/example/even_bucket/evenbucket/IntervalBucket" "periodMillis" "J" (.long up) := (((((F2.other W149 (Or.inr (slot_ne (Or.inr (hw _ (List.mem_of_getElem? (i := 23) rfl))) (Or.inl (hw _ (List.mem_of_getElem? (i := 32) rfl))) (by decide) (t := .long) (t' := .long) (by decide) (by decide)))).other W155 (Or.inr (slot_ne (Or.inr (hw _ (List.mem_of_getElem? (i := 23) rfl))) (Or.inl (hw _ (List.mem_of_getElem? (i := 34) rfl))) (by decide) (t := .long) (t' := .long) (by decide) (by decide)))).other W163 (Or.inr (slot_ne (Or.inr (hw _ (List.mem_of_getElem? (i := 23) rfl))) (Or.inl (hw _ (List.mem_of_getElem? (i := 36) rfl))) (by decide) (t := .long) (t' := .long) (by decide) (by decide)))).other W169 (Or.inr (slot_ne (Or.inr (hw _ (List.mem_of_getElem? (i := 23) rfl))) (Or.inl (hw _ (List.mem_of_getElem? (i := 30) rfl))) (by decide) (t := .long) (t' := .boolean) (by decide) (by decide)))).other W179 (Or.inr (slot_ne (Or.inr (hw _ (List.mem_of_getElem? (i := 23) rfl))) (Or.inl (hw _ (List.mem_of_getElem? (i := 39) rfl))) (by decide) (t := .long) (t' := .long) (by decide) (by decide))))
  have c187 : Fld Z h179 r0 "com/example/even_bucket/evenbucket/IntervalBucket" "permits" "J" (.long (uc.toInt64)) := ((c165.other W169 (Or.inr (slot_ne (Or.inl (hw _ (List.mem_of_getElem? (i := 36) rfl))) (Or.inl (hw _ (List.mem_of_getElem? (i := 30) rfl))) (by decide) (t := .long) (t' := .boolean) (by decide) (by decide)))).other W179 (Or.inr (slot_ne (Or.inl (hw _ (List.mem_of_getElem? (i := 36) rfl))) (Or.inl (hw _ (List.mem_of_getElem? (i := 39) rfl))) (by decide) (t := .long) (t' := .long) (by decide) (by decide))))
  have c188 : Fld Z h179 r0 "com/example/even_bucket/evenbucket/IntervalBucket" "origin" "J" (.long q1) := ((((c151.other W155 (Or.inr (slot_ne (Or.inl (hw _ (List.mem_of_getElem? (i := 32) rfl))) (Or.inl (hw _ (List.mem_of_getElem? (i := 34) rfl))) (by decide) (t := .long) (t' := .long) (by decide) (by decide)))).other W163 (Or.inr (slot_ne (Or.inl (hw _ (List.mem_of_getElem? (i := 32) rfl))) (Or.inl (hw _ (List.mem_of_getElem? (i := 36) rfl))) (by decide) (t := .long) (t' := .long) (by decide) (by decide)))).other W169 (Or.inr (slot_ne (Or.inl (hw _ (List.mem_of_getElem? (i := 32) rfl))) (Or.inl (hw _ (List.mem_of_getElem? (i := 30) rfl))) (by decide) (t := .long) (t' := .boolean) (by decide) (by decide)))).other W179 (Or.inr (slot_ne (Or.inl (hw _ (List.mem_of_getElem? (i := 32) rfl))) (Or.inl (hw _ (List.mem_of_getElem? (i := 39) rfl))) (by decide) (t := .long) (t' := .long) (by decide) (by decide))))
  have c189 : Fld Z h179 r0 "com/example/even_bucket/evenbucket/IntervalBucket" "newest" "J" (.long q1) := (c173.other W179 (Or.inr (slot_ne (Or.inl (hw _ (List.mem_of_getElem? (i := 34) rfl))) (Or.inl (hw _ (List.mem_of_getElem? (i := 39) rfl))) (by decide) (t := .long) (t' := .long) (by decide) (by decide))))
  have c190 : Exa Z h179 r0 "com/example/even_bucket/evenbucket/IntervalBucket" := (c177.wr W179)
  obtain ⟨cq183, q183, q183'⟩ := c190.cell
  obtain ⟨_, _, ⟨T183, L183, k183, n183⟩, -, X183, ⟨Lc183, hQ183, l183, y183, z183⟩, st183⟩ := X179.privateBack hx (y := (⟨"com/example/even_bucket/evenbucket/IntervalBucket", "permitsAt", "(J)J"⟩ : MethodName)) hown (mvT hZ (hw _ (List.mem_of_getElem? (i := 40) rfl))) (mvT hZ (hw _ (List.mem_of_getElem? (i := 41) rfl))) (Jvm.Kit.selects_private (by decide) (mvT hZ (hw _ (List.mem_of_getElem? (i := 10) rfl))) (mvP hZ (hw _ (List.mem_of_getElem? (i := 42) rfl))) (mvT hZ (hw _ (List.mem_of_getElem? (i := 41) rfl)))) (Cond.privateMethod_at (mvP hZ (hw _ (List.mem_of_getElem? (i := 42) rfl)) (args := #[]))) (mvT hZ (hw _ (List.mem_of_getElem? (i := 43) rfl))) (by decide) (backOf (W := 0) (rm6 l Z a0 hw [] r0 q1 uc ur up (uc.toInt64) h179 n0 (Nat.le_trans Z0 K180.1) c184 c185 c186 c187 c188 c189 c190 hd hr) hZ (hw _ (List.mem_of_getElem? (i := 43) rfl)) (hw _ (List.mem_of_getElem? (i := 11) rfl)) (by decide) (by decide)) (g := (mkF m 47 #[.val (.ref r0), .val (.long q1), .second, .val (.long q1), .second, .unset, .unset] [(.long q1), (.ref r0)])) rfl (by rw [hml]; rfl) (Steps.refl _) (a := r0) (by rw [e179]; exact q183) q183' (argsL := [(.long q1)]) (rest := []) (lenOf pd__J_J rfl) rfl (by show 2 * 0 + _ ≤ _; exact Nat.le_of_eq rfl) (hb hby d5_47) (fun _ _ => ⟨rfl, e179, (by decide : 0 + 0 ≤ _), (by decide : 0 + 0 ≤ _)⟩)
  dsimp only [Pt.U, Pt.locs, Pt.cells, Pt.slots] at X183 l183 y183 z183 st183 hQ183
  subst l183 y183 z183
  obtain ⟨rfl, Nq183, e183⟩ := hQ183
  have N183 := Fr.app N182 Nq183
  have S191 : ∀ t, Steps p.tables e below (T183.setTop (mkF m 52 #[.val (.ref r0), .val (.long q1), .second, .val (.long q1), .second, .val (.long (f_pa uc (uc.toInt64) ur)), .second] [])) t → Steps p.tables e below (s₁.setTop (entryFrame m #[(.ref r0), (.long q1)] 7)) t := by
    intro t kt
    refine S176 _ ?_
    show Steps p.tables e below (T175.setTop (mkF m 40 #[.val (.ref r0), .val (.long q1), .second, .val (.long q1), .second, .unset, .unset] [])) _
    refine XS.aloadN X175.here hx rfl (hb hby d5_40) rfl rfl ?_
    show Steps p.tables e below (T175.setTop (mkF m 41 #[.val (.ref r0), .val (.long q1), .second, .val (.long q1), .second, .unset, .unset] [(.ref r0)])) _
    refine XS.lloadN X175.here hx rfl (hb hby d5_41) rfl ?_
    show Steps p.tables e below (T175.setTop (mkF m 42 #[.val (.ref r0), .val (.long q1), .second, .val (.long q1), .second, .unset, .unset] [(.long q1), (.ref r0)])) _
    refine st179 _ ?_
    show Steps p.tables e below (T179.setTop (mkF m 45 #[.val (.ref r0), .val (.long q1), .second, .val (.long q1), .second, .unset, .unset] [])) _
    refine XS.aloadN X179.here hx rfl (hb hby d5_45) rfl rfl ?_
    show Steps p.tables e below (T179.setTop (mkF m 46 #[.val (.ref r0), .val (.long q1), .second, .val (.long q1), .second, .unset, .unset] [(.ref r0)])) _
    refine XS.lloadN X179.here hx rfl (hb hby d5_46) rfl ?_
    show Steps p.tables e below (T179.setTop (mkF m 47 #[.val (.ref r0), .val (.long q1), .second, .val (.long q1), .second, .unset, .unset] [(.long q1), (.ref r0)])) _
    refine st183.trans ?_
    show Steps p.tables e below (T183.setTop (mkF m 50 #[.val (.ref r0), .val (.long q1), .second, .val (.long q1), .second, .unset, .unset] [(.long (f_pa uc (uc.toInt64) ur))])) _
    refine XS.lstore X183.here hx rfl (hb hby d5_50) rfl (l' := #[.val (.ref r0), .val (.long q1), .second, .val (.long q1), .second, .val (.long (f_pa uc (uc.toInt64) ur)), .second]) rfl ?_
    exact kt
  rw [(hA : (f_pa uc (uc.toInt64) ur) = (uc.toInt64))] at S191
  obtain ⟨T192, h192, X192, e192, W192, st192⟩ := putF X183 hx hZ hown (host := "") (Or.inl (hw _ (List.mem_of_getElem? (i := 35) rfl))) Via.refl e183 c187 c190 (Or.inl (hw _ (List.mem_of_getElem? (i := 36) rfl))) (hw _ (List.mem_of_getElem? (i := 10) rfl)) (ty := .long) (by decide) rfl rfl (g := (mkF m 70 #[.val (.ref r0), .val (.long q1), .second, .val (.long q1), .second, .val (.long (uc.toInt64)), .second] [(.long ((uc.toInt64) - (1 : Int64))), (.ref r0)])) rfl rfl (hb hby d5_70)
  have K193 : Keep h0 h192 [r0] := K180.wr W192 (Or.inl (List.mem_of_getElem? (i := 0) rfl))
  have c194 : Fld Z h192 r0 "com/example/even_bucket/evenbucket/IntervalBucket" "permits" "J" (.long ((uc.toInt64) - (1 : Int64))) := c187.same W192
  have N195 := Fr.snoc X192 N183 g1
  have c196 : Exa Z h192 r0 "com/example/even_bucket/evenbucket/IntervalBucket" := (c190.wr W192)
  have c197 : Fld Z h192 r0 "com/example/even_bucket/evenbucket/IntervalBucket" "newest" "J" (.long q1) := (c189.other W192 (Or.inr (slot_ne (Or.inl (hw _ (List.mem_of_getElem? (i := 34) rfl))) (Or.inl (hw _ (List.mem_of_getElem? (i := 36) rfl))) (by decide) (t := .long) (t' := .long) (by decide) (by decide))))
  obtain ⟨T198, h198, X198, e198, W198, st198⟩ := putF X192 hx hZ hown (host := "") (Or.inl (hw _ (List.mem_of_getElem? (i := 33) rfl))) Via.refl e192 c197 c196 (Or.inl (hw _ (List.mem_of_getElem? (i := 34) rfl))) (hw _ (List.mem_of_getElem? (i := 10) rfl)) (ty := .long) (by decide) rfl rfl (g := (mkF m 75 #[.val (.ref r0), .val (.long q1), .second, .val (.long q1), .second, .val (.long (uc.toInt64)), .second] [(.long q1), (.ref r0)])) rfl rfl (hb hby d5_75)
  have K199 : Keep h0 h198 [r0] := K193.wr W198 (Or.inl (List.mem_of_getElem? (i := 0) rfl))
  have c200 : Fld Z h198 r0 "com/example/even_bucket/evenbucket/IntervalBucket" "newest" "J" (.long q1) := c197.same W198
  have N201 := Fr.snoc X198 N195 g1
  have c202 : Fld Z h198 r0 "com/example/even_bucket/evenbucket/IntervalBucket" "permits" "J" (.long ((uc.toInt64) - (1 : Int64))) := (c194.other W198 (Or.inr (slot_ne (Or.inl (hw _ (List.mem_of_getElem? (i := 36) rfl))) (Or.inl (hw _ (List.mem_of_getElem? (i := 34) rfl))) (by decide) (t := .long) (t' := .long) (by decide) (by decide))))
  obtain ⟨T203, X203, e203, st203⟩ := getF X198 hx hZ hown (host := "") (Or.inl (hw _ (List.mem_of_getElem? (i := 35) rfl))) Via.refl e198 c202 (g := (mkF m 79 #[.val (.ref r0), .val (.long q1), .second, .val (.long q1), .second, .val (.long (uc.toInt64)), .second] [(.ref r0)])) rfl rfl (hb hby d5_79)
  have c205 : Sta Z h198 "java/time/Duration" "ZERO" "Ljava/time/Duration;" (.ref vz) := (((((((Sz.wr W149).wr W155).wr W163).wr W169).wr W179).wr W192).wr W198)
  obtain ⟨_, _, ⟨T204, L204, k204, n204⟩, -, X204, ⟨Lc204, hQ204, l204, y204, z204⟩, st204⟩ := Jvm.LawKit.callS X203 hx (y := (⟨"com/example/even_bucket/evenbucket/Decision", "allow", "(J)Lcom/example/even_bucket/evenbucket/Decision;"⟩ : MethodName)) hown (mvT hZ (hw _ (List.mem_of_getElem? (i := 60) rfl))) (mvT hZ (hw _ (List.mem_of_getElem? (i := 61) rfl))) (mvT hZ (hw _ (List.mem_of_getElem? (i := 62) rfl))) (mvT hZ (hw _ (List.mem_of_getElem? (i := 63) rfl))) (by decide) (backOf (W := 0) (rm11 l Z a0 hw [] ((uc.toInt64) - (1 : Int64)) vz h198 n0 (Nat.le_trans Z0 K199.1) hn c205) hZ (hw _ (List.mem_of_getElem? (i := 63) rfl)) (hw _ (List.mem_of_getElem? (i := 62) rfl)) (by decide) (by decide)) (g := (mkF m 82 #[.val (.ref r0), .val (.long q1), .second, .val (.long q1), .second, .val (.long (uc.toInt64)), .second] [(.long ((uc.toInt64) - (1 : Int64)))])) rfl (by rw [hml]; rfl) (argsL := [(.long ((uc.toInt64) - (1 : Int64)))]) (rest := []) (lenOf pd__J_Lcom_example_even_bucket_evenbucket_Decision_ rfl) rfl (by show 2 * 0 + _ ≤ _; exact Nat.le_of_eq rfl) (hb hby d5_82) (fun _ _ => ⟨rfl, e203, (by decide : 0 + 1 ≤ _), (by decide : 0 + 3 ≤ _)⟩)
  dsimp only [Pt.U, Pt.locs, Pt.cells, Pt.slots] at X204 l204 y204 z204 st204 hQ204
  subst l204 y204 z204
  obtain ⟨bb_204, rfl, Nq204, Kq204, f204_0, f204_1, f204_2, f204_3⟩ := hQ204
  have K206 : Keep h0 T204.heap [r0] := K199.trans Kq204 (fun x hx => by simp at hx)
  have N204 := Fr.app N201 Nq204
  have ge_bb_204 : n0 ≤ bb_204 := Nat.le_trans (Nat.le_trans Z0 K199.1) f204_0
  have sz_bb_204 : h0.size ≤ bb_204 := Nat.le_trans K199.1 f204_0
  obtain ⟨fs, hrT, hrunT, hendT, hWT, hsameT⟩ := X204.leave (hlocks := BodyLoose.notSynchronized Bd) (v := some (.ref bb_204)) (fun h => by rw [Bd.returns] at h; cases h)
  refine ⟨_, _, S191 _ ?_, hrunT, hendT, _, _, rfl, ?_, ⟨_, rfl⟩, hWT, hsameT.mono (by decide) (by decide)⟩
  · show Steps p.tables e below (T183.setTop (mkF m 52 #[.val (.ref r0), .val (.long q1), .second, .val (.long q1), .second, .val (.long (uc.toInt64)), .second] [])) _
    refine XS.lload X183.here hx rfl (hb hby d5_52) rfl ?_
    show Steps p.tables e below (T183.setTop (mkF m 54 #[.val (.ref r0), .val (.long q1), .second, .val (.long q1), .second, .val (.long (uc.toInt64)), .second] [(.long (uc.toInt64))])) _
    refine XS.lconst X183.here hx rfl (hb hby d5_54) ?_
    show Steps p.tables e below (T183.setTop (mkF m 55 #[.val (.ref r0), .val (.long q1), .second, .val (.long q1), .second, .val (.long (uc.toInt64)), .second] [(.long (0 : Int64)), (.long (uc.toInt64))])) _
    refine XT.lcmp X183.here hx rfl (hb hby d5_55) rfl ?_
    show Steps p.tables e below (T183.setTop (mkF m 56 #[.val (.ref r0), .val (.long q1), .second, .val (.long q1), .second, .val (.long (uc.toInt64)), .second] [(.int (XT.cmpL (uc.toInt64) (0 : Int64)))])) _
    refine XS.ifYes X183.here hx rfl (pc0 := 56) (pc' := 65) rfl (hb hby d5_56) rfl (XT.ll_ne_t hc) (by decide) (by decide) ?_
    show Steps p.tables e below (T183.setTop (mkF m 65 #[.val (.ref r0), .val (.long q1), .second, .val (.long q1), .second, .val (.long (uc.toInt64)), .second] [])) _
    refine XS.aloadN X183.here hx rfl (hb hby d5_65) rfl rfl ?_
    show Steps p.tables e below (T183.setTop (mkF m 66 #[.val (.ref r0), .val (.long q1), .second, .val (.long q1), .second, .val (.long (uc.toInt64)), .second] [(.ref r0)])) _
    refine XS.lload X183.here hx rfl (hb hby d5_66) rfl ?_
    show Steps p.tables e below (T183.setTop (mkF m 68 #[.val (.ref r0), .val (.long q1), .second, .val (.long q1), .second, .val (.long (uc.toInt64)), .second] [(.long (uc.toInt64)), (.ref r0)])) _
    refine XS.lconst X183.here hx rfl (hb hby d5_68) ?_
    show Steps p.tables e below (T183.setTop (mkF m 69 #[.val (.ref r0), .val (.long q1), .second, .val (.long q1), .second, .val (.long (uc.toInt64)), .second] [(.long (1 : Int64)), (.long (uc.toInt64)), (.ref r0)])) _
    refine XS.lsub X183.here hx rfl (hb hby d5_69) rfl ?_
    show Steps p.tables e below (T183.setTop (mkF m 70 #[.val (.ref r0), .val (.long q1), .second, .val (.long q1), .second, .val (.long (uc.toInt64)), .second] [(.long ((uc.toInt64) - (1 : Int64))), (.ref r0)])) _
    refine st192 _ ?_
    show Steps p.tables e below (T192.setTop (mkF m 73 #[.val (.ref r0), .val (.long q1), .second, .val (.long q1), .second, .val (.long (uc.toInt64)), .second] [])) _
    refine XS.aloadN X192.here hx rfl (hb hby d5_73) rfl rfl ?_
    show Steps p.tables e below (T192.setTop (mkF m 74 #[.val (.ref r0), .val (.long q1), .second, .val (.long q1), .second, .val (.long (uc.toInt64)), .second] [(.ref r0)])) _
    refine XS.lloadN X192.here hx rfl (hb hby d5_74) rfl ?_
    show Steps p.tables e below (T192.setTop (mkF m 75 #[.val (.ref r0), .val (.long q1), .second, .val (.long q1), .second, .val (.long (uc.toInt64)), .second] [(.long q1), (.ref r0)])) _
    refine st198 _ ?_
    show Steps p.tables e below (T198.setTop (mkF m 78 #[.val (.ref r0), .val (.long q1), .second, .val (.long q1), .second, .val (.long (uc.toInt64)), .second] [])) _
    refine XS.aloadN X198.here hx rfl (hb hby d5_78) rfl rfl ?_
    show Steps p.tables e below (T198.setTop (mkF m 79 #[.val (.ref r0), .val (.long q1), .second, .val (.long q1), .second, .val (.long (uc.toInt64)), .second] [(.ref r0)])) _
    refine st203 _ ?_
    show Steps p.tables e below (T203.setTop (mkF m 82 #[.val (.ref r0), .val (.long q1), .second, .val (.long q1), .second, .val (.long (uc.toInt64)), .second] [(.long ((uc.toInt64) - (1 : Int64)))])) _
    refine st204 _ ?_
    show Steps p.tables e below (T204.setTop (mkF m 85 #[.val (.ref r0), .val (.long q1), .second, .val (.long q1), .second, .val (.long (uc.toInt64)), .second] [(.ref bb_204)])) _
    exact retOut X204 hx Bd.returns rfl (by right; right; right; right; exact ⟨rfl, rfl, rfl⟩) (hb hby d5_85) hrT
  · show QtA Z r0 q1 uc ur up vz h0 n0 _ T204.heap _
    have c207 : Fld Z T204.heap r0 "com/example/even_bucket/evenbucket/IntervalBucket" "capacity" "I" (.int uc) := (((c184.other W192 (Or.inr (slot_ne (Or.inr (hw _ (List.mem_of_getElem? (i := 19) rfl))) (Or.inl (hw _ (List.mem_of_getElem? (i := 36) rfl))) (by decide) (t := .int) (t' := .long) (by decide) (by decide)))).other W198 (Or.inr (slot_ne (Or.inr (hw _ (List.mem_of_getElem? (i := 19) rfl))) (Or.inl (hw _ (List.mem_of_getElem? (i := 34) rfl))) (by decide) (t := .int) (t' := .long) (by decide) (by decide)))).keep Kq204 List.not_mem_nil)
    have c208 : Fld Z T204.heap r0 "com/example/even_bucket/evenbucket/IntervalBucket" "refill" "I" (.int ur) := (((c185.other W192 (Or.inr (slot_ne (Or.inr (hw _ (List.mem_of_getElem? (i := 21) rfl))) (Or.inl (hw _ (List.mem_of_getElem? (i := 36) rfl))) (by decide) (t := .int) (t' := .long) (by decide) (by decide)))).other W198 (Or.inr (slot_ne (Or.inr (hw _ (List.mem_of_getElem? (i := 21) rfl))) (Or.inl (hw _ (List.mem_of_getElem? (i := 34) rfl))) (by decide) (t := .int) (t' := .long) (by decide) (by decide)))).keep Kq204 List.not_mem_nil)
    have c209 : Fld Z T204.heap r0 "com/example/even_bucket/evenbucket/IntervalBucket" "periodMillis" "J" (.long up) := (((c186.other W192 (Or.inr (slot_ne (Or.inr (hw _ (List.mem_of_getElem? (i := 23) rfl))) (Or.inl (hw _ (List.mem_of_getElem? (i := 36) rfl))) (by decide) (t := .long) (t' := .long) (by decide) (by decide)))).other W198 (Or.inr (slot_ne (Or.inr (hw _ (List.mem_of_getElem? (i := 23) rfl))) (Or.inl (hw _ (List.mem_of_getElem? (i := 34) rfl))) (by decide) (t := .long) (t' := .long) (by decide) (by decide)))).keep Kq204 List.not_mem_nil)
    have c210 : Fld Z T204.heap r0 "com/example/even_bucket/evenbucket/IntervalBucket" "permits" "J" (.long ((uc.toInt64) - (1 : Int64))) := (c202.keep Kq204 List.not_mem_nil)
    have c211 : Fld Z T204.heap r0 "com/example/even_bucket/evenbucket/IntervalBucket" "origin" "J" (.long q1) := (((c188.other W192 (Or.inr (slot_ne (Or.inl (hw _ (List.mem_of_getElem? (i := 32) rfl))) (Or.inl (hw _ (List.mem_of_getElem? (i := 36) rfl))) (by decide) (t := .long) (t' := .long) (by decide) (by decide)))).other W198 (Or.inr (slot_ne (Or.inl (hw _ (List.mem_of_getElem? (i := 32) rfl))) (Or.inl (hw _ (List.mem_of_getElem? (i := 34) rfl))) (by decide) (t := .long) (t' := .long) (by decide) (by decide)))).keep Kq204 List.not_mem_nil)
    have c212 : Fld Z T204.heap r0 "com/example/even_bucket/evenbucket/IntervalBucket" "newest" "J" (.long q1) := (c200.keep Kq204 List.not_mem_nil)
    have c213 : Fld Z T204.heap r0 "com/example/even_bucket/evenbucket/IntervalBucket" "admitted" "Z" (.int (1 : Int32)) := ((((c171.other W179 (Or.inr (slot_ne (Or.inl (hw _ (List.mem_of_getElem? (i := 30) rfl))) (Or.inl (hw _ (List.mem_of_getElem? (i := 39) rfl))) (by decide) (t := .boolean) (t' := .long) (by decide) (by decide)))).other W192 (Or.inr (slot_ne (Or.inl (hw _ (List.mem_of_getElem? (i := 30) rfl))) (Or.inl (hw _ (List.mem_of_getElem? (i := 36) rfl))) (by decide) (t := .boolean) (t' := .long) (by decide) (by decide)))).other W198 (Or.inr (slot_ne (Or.inl (hw _ (List.mem_of_getElem? (i := 30) rfl))) (Or.inl (hw _ (List.mem_of_getElem? (i := 34) rfl))) (by decide) (t := .boolean) (t' := .long) (by decide) (by decide)))).keep Kq204 List.not_mem_nil)
    have c214 : Fld Z T204.heap r0 "com/example/even_bucket/evenbucket/IntervalBucket" "decidedAt" "J" (.long q1) := (((c181.other W192 (Or.inr (slot_ne (Or.inl (hw _ (List.mem_of_getElem? (i := 39) rfl))) (Or.inl (hw _ (List.mem_of_getElem? (i := 36) rfl))) (by decide) (t := .long) (t' := .long) (by decide) (by decide)))).other W198 (Or.inr (slot_ne (Or.inl (hw _ (List.mem_of_getElem? (i := 39) rfl))) (Or.inl (hw _ (List.mem_of_getElem? (i := 34) rfl))) (by decide) (t := .long) (t' := .long) (by decide) (by decide)))).keep Kq204 List.not_mem_nil)
    exact ⟨bb_204, rfl, N204, K206, c207, c208, c209, c210, c211, c212, c213, c214⟩
theorem eftB (m : MethodId) (x0 : Addr) (x1 : Int64) : entryFrame m #[(.ref x0), (.long x1)] 7 = mkF m 0 #[.val (.ref x0), .val (.long x1), .second, .unset, .unset, .unset, .unset] [] := by first | (simp [entryFrame, mkF, argsToLocals, Value.category]; done) | rfl
def QtB (Z : State) (r0 : Addr) (q1 : Int64) (uc : Int32) (ur : Int32) (up : Int64) (ux : Int64) (vz : Addr) (h0 : Heap) (n0 : Nat) (v : Option Value) (h : Heap) (L : List Loc) : Prop := ∃ bb : Addr, v = some (.ref bb) ∧ Fr n0 L ∧ Keep h0 h [r0] ∧ h0.size ≤ bb ∧ Exa Z h bb "com/example/even_bucket/evenbucket/Decision" ∧ Fld Z h bb "com/example/even_bucket/evenbucket/Decision" "remaining" "J" (.long (ux - (1 : Int64))) ∧ Fld Z h bb "com/example/even_bucket/evenbucket/Decision" "retryAfter" "Ljava/time/Duration;" (.ref vz)
set_option maxRecDepth 65536 in
set_option maxHeartbeats 40000000 in
theorem rmtB (l : Launch) (Z : State) (a0 : Array Value) (hw : ∀ d ∈ tables_1, d.before a0 Z = true) (ws : List Jvm.Cond) (r0 : Addr) (q1 : Int64) (uc : Int32) (ur : Int32) (up : Int64) (ux : Int64) (vz : Addr) (h0 : Heap) (n0 : Nat) (Z0 : n0 ≤ h0.size) (F0 : Fld Z h0 r0 "com/example/even_bucket/evenbucket/IntervalBucket" "capacity" "I" (.int uc)) (F1 : Fld Z h0 r0 "com/example/even_bucket/evenbucket/IntervalBucket" "refill" "I" (.int ur)) (F2 : Fld Z h0 r0 "com/example/even_bucket/evenbucket/IntervalBucket" "periodMillis" "J" (.long up)) (F3 : Fld Z h0 r0 "com/example/even_bucket/evenbucket/IntervalBucket" "permits" "J" (.long ux)) (F4 : Fld Z h0 r0 "com/example/even_bucket/evenbucket/IntervalBucket" "origin" "J" (.long q1)) (F5 : Fld Z h0 r0 "com/example/even_bucket/evenbucket/IntervalBucket" "newest" "J" (.long q1)) (F6 : Fld Z h0 r0 "com/example/even_bucket/evenbucket/IntervalBucket" "admitted" "Z" (.int (1 : Int32))) (F7 : Fld Z h0 r0 "com/example/even_bucket/evenbucket/IntervalBucket" "decidedAt" "J" (.long q1)) (E1 : Exa Z h0 r0 "com/example/even_bucket/evenbucket/IntervalBucket") (g1 : n0 ≤ r0) (hd : 1 ≤ up.toInt) (hr : 1 ≤ ur.toInt) (Sz : Sta Z h0 "java/time/Duration" "ZERO" "Ljava/time/Duration;" (.ref vz)) (hB : f_pa uc ux ur = ux) (hxx : ¬ ux = (0 : Int64)) (hn : ¬ (ux - (1 : Int64)) < (0 : Int64)) :
    MetFree l (⟨"com/example/even_bucket/evenbucket/IntervalBucket", "tryAcquire", "(J)Lcom/example/even_bucket/evenbucket/Decision;"⟩ : MethodName) (head1 (Jvm.Cond.code (⟨"com/example/even_bucket/evenbucket/IntervalBucket", "tryAcquire", "(J)Lcom/example/even_bucket/evenbucket/Decision;"⟩ : MethodName) prog_33_method_3_code 7 (some (.object "com/example/even_bucket/evenbucket/Decision")) :: ws) ({ frames := 3, cells := 1, slots := 3, locals := 53 } : Room)) (fun a U => a = #[(.ref r0), (.long q1)] ∧ Z.Warmed39 U.vm ∧ U.heap = h0) (fun _ _ _ _ _ => True) (fun _ U o U' => ∃ v L, o = .returned v ∧ QtB Z r0 q1 uc ur up ux vz h0 n0 v U'.heap L ∧ FrameEnd U o U' L ({ frames := 3, cells := 1, slots := 3, locals := 53 } : Room).cells ({ frames := 3, cells := 1, slots := 3, locals := 53 } : Room).slots) := by
  refine MetFree.of_bodySF (plainFor_of_name pn_IntervalBucket) hisR ?_
  intro p e s m args below meth c s₁ Bd hml0 hP hK
  obtain ⟨rfl, hZ, hh⟩ := hP
  have hx := Bd.exec
  have hby := Bd.bytes
  have hml : c.maxLocals = 7 := hml0
  have hown : s.vm.findClass "com/example/even_bucket/evenbucket/IntervalBucket" = some m.cls := findClass_of_methodNamed Bd.named
  have hnm := (name_of_methodNamed Bd.named Bd.method).1
  have X0 : Stand p l e ({ frames := 3, cells := 1, slots := 3, locals := 53 } : Room) s m #[(.ref r0), (.long q1)] below meth c s₁ [] 0 0 := Stand.of_body Bd
  have e0 : s₁.heap = h0 := by rw [← hh, Bd.state]; rfl
  have N0 := Fr.nil n0
  have pre0 : ∀ t, Steps p.tables e below (s₁.setTop (mkF m 0 #[.val (.ref r0), .val (.long q1), .second, .unset, .unset, .unset, .unset] [])) t → Steps p.tables e below (s₁.setTop (entryFrame m #[(.ref r0), (.long q1)] 7)) t := fun t k => castTop (eftB m r0 q1) k
  obtain ⟨T215, X215, e215, st215⟩ := getF X0 hx hZ hown (host := "") (Or.inl (hw _ (List.mem_of_getElem? (i := 29) rfl))) Via.refl e0 F6 (g := (mkF m 1 #[.val (.ref r0), .val (.long q1), .second, .unset, .unset, .unset, .unset] [(.ref r0)])) rfl rfl (hb hby d5_1)
  obtain ⟨T216, X216, e216, st216⟩ := getF X215 hx hZ hown (host := "") (Or.inl (hw _ (List.mem_of_getElem? (i := 33) rfl))) Via.refl e215 F5 (g := (mkF m 33 #[.val (.ref r0), .val (.long q1), .second, .unset, .unset, .unset, .unset] [(.ref r0), (.long q1)])) rfl rfl (hb hby d5_33)
  obtain ⟨_, _, ⟨T217, L217, k217, n217⟩, -, X217, ⟨Lc217, hQ217, l217, y217, z217⟩, st217⟩ := Jvm.LawKit.callS X216 hx (y := (⟨"java/lang/Math", "max", "(JJ)J"⟩ : MethodName)) hown (mvT hZ (hw _ (List.mem_of_getElem? (i := 37) rfl))) (mvT hZ (hw _ (List.mem_of_getElem? (i := 7) rfl))) (mvT hZ (hw _ (List.mem_of_getElem? (i := 3) rfl))) (mvT hZ (hw _ (List.mem_of_getElem? (i := 8) rfl))) (by decide) (backOf (W := 0) (rm2 l Z a0 hw [] q1 q1 h0 n0 Z0 ) hZ (hw _ (List.mem_of_getElem? (i := 8) rfl)) (hw _ (List.mem_of_getElem? (i := 3) rfl)) (by decide) (by decide)) (g := (mkF m 36 #[.val (.ref r0), .val (.long q1), .second, .unset, .unset, .unset, .unset] [(.long q1), (.long q1)])) rfl (by rw [hml]; rfl) (argsL := [(.long q1), (.long q1)]) (rest := []) (lenOf pd__JJ_J rfl) rfl (by show 2 * 0 + _ ≤ _; exact Nat.le_of_eq rfl) (hb hby d5_36) (fun _ _ => ⟨rfl, e216, (by decide : 0 + 0 ≤ _), (by decide : 0 + 0 ≤ _)⟩)
  dsimp only [Pt.U, Pt.locs, Pt.cells, Pt.slots] at X217 l217 y217 z217 st217 hQ217
  subst l217 y217 z217
  obtain ⟨rfl, Nq217, e217⟩ := hQ217
  have N217 := Fr.app N0 Nq217
  have S218 : ∀ t, Steps p.tables e below (T217.setTop (mkF m 40 #[.val (.ref r0), .val (.long q1), .second, .val (.long (f_maxL q1 q1)), .second, .unset, .unset] [])) t → Steps p.tables e below (s₁.setTop (entryFrame m #[(.ref r0), (.long q1)] 7)) t := by
    intro t kt
    refine pre0 _ ?_
    show Steps p.tables e below (s₁.setTop (mkF m 0 #[.val (.ref r0), .val (.long q1), .second, .unset, .unset, .unset, .unset] [])) _
    refine XS.aloadN X0.here hx rfl (hb hby d5_0) rfl rfl ?_
    show Steps p.tables e below (s₁.setTop (mkF m 1 #[.val (.ref r0), .val (.long q1), .second, .unset, .unset, .unset, .unset] [(.ref r0)])) _
    refine st215 _ ?_
    show Steps p.tables e below (T215.setTop (mkF m 4 #[.val (.ref r0), .val (.long q1), .second, .unset, .unset, .unset, .unset] [(.int (1 : Int32))])) _
    refine XS.ifYes X215.here hx rfl (pc0 := 4) (pc' := 31) rfl (hb hby d5_4) rfl (XT.i0_ne_t (by decide)) (by decide) (by decide) ?_
    show Steps p.tables e below (T215.setTop (mkF m 31 #[.val (.ref r0), .val (.long q1), .second, .unset, .unset, .unset, .unset] [])) _
    refine XS.lloadN X215.here hx rfl (hb hby d5_31) rfl ?_
    show Steps p.tables e below (T215.setTop (mkF m 32 #[.val (.ref r0), .val (.long q1), .second, .unset, .unset, .unset, .unset] [(.long q1)])) _
    refine XS.aloadN X215.here hx rfl (hb hby d5_32) rfl rfl ?_
    show Steps p.tables e below (T215.setTop (mkF m 33 #[.val (.ref r0), .val (.long q1), .second, .unset, .unset, .unset, .unset] [(.ref r0), (.long q1)])) _
    refine st216 _ ?_
    show Steps p.tables e below (T216.setTop (mkF m 36 #[.val (.ref r0), .val (.long q1), .second, .unset, .unset, .unset, .unset] [(.long q1), (.long q1)])) _
    refine st217 _ ?_
    show Steps p.tables e below (T217.setTop (mkF m 39 #[.val (.ref r0), .val (.long q1), .second, .unset, .unset, .unset, .unset] [(.long (f_maxL q1 q1))])) _
    refine XS.lstoreN X217.here hx rfl (hb hby d5_39) rfl (l' := #[.val (.ref r0), .val (.long q1), .second, .val (.long (f_maxL q1 q1)), .second, .unset, .unset]) rfl ?_
    exact kt
  rw [(own_max q1 : (f_maxL q1 q1) = q1)] at S218
  obtain ⟨T219, h219, X219, e219, W219, st219⟩ := putF X217 hx hZ hown (host := "") (Or.inl (hw _ (List.mem_of_getElem? (i := 38) rfl))) Via.refl e217 F7 E1 (Or.inl (hw _ (List.mem_of_getElem? (i := 39) rfl))) (hw _ (List.mem_of_getElem? (i := 10) rfl)) (ty := .long) (by decide) rfl rfl (g := (mkF m 42 #[.val (.ref r0), .val (.long q1), .second, .val (.long q1), .second, .unset, .unset] [(.long q1), (.ref r0)])) rfl rfl (hb hby d5_42)
  have K220 : Keep h0 h219 [r0] := (Keep.refl h0 [r0]).wr W219 (Or.inl (List.mem_of_getElem? (i := 0) rfl))
  have c221 : Fld Z h219 r0 "com/example/even_bucket/evenbucket/IntervalBucket" "decidedAt" "J" (.long q1) := F7.same W219
  have N222 := Fr.snoc X219 N217 g1
  have c224 : Fld Z h219 r0 "com/example/even_bucket/evenbucket/IntervalBucket" "capacity" "I" (.int uc) := (F0.other W219 (Or.inr (slot_ne (Or.inr (hw _ (List.mem_of_getElem? (i := 19) rfl))) (Or.inl (hw _ (List.mem_of_getElem? (i := 39) rfl))) (by decide) (t := .int) (t' := .long) (by decide) (by decide))))
  have c225 : Fld Z h219 r0 "com/example/even_bucket/evenbucket/IntervalBucket" "refill" "I" (.int ur) := (F1.other W219 (Or.inr (slot_ne (Or.inr (hw _ (List.mem_of_getElem? (i := 21) rfl))) (Or.inl (hw _ (List.mem_of_getElem? (i := 39) rfl))) (by decide) (t := .int) (t' := .long) (by decide) (by decide))))
  have c226 : Fld Z h219 r0 "com/example/even_bucket/evenbucket/IntervalBucket" "periodMillis" "J" (.long up) := (F2.other W219 (Or.inr (slot_ne (Or.inr (hw _ (List.mem_of_getElem? (i := 23) rfl))) (Or.inl (hw _ (List.mem_of_getElem? (i := 39) rfl))) (by decide) (t := .long) (t' := .long) (by decide) (by decide))))
  have c227 : Fld Z h219 r0 "com/example/even_bucket/evenbucket/IntervalBucket" "permits" "J" (.long ux) := (F3.other W219 (Or.inr (slot_ne (Or.inl (hw _ (List.mem_of_getElem? (i := 36) rfl))) (Or.inl (hw _ (List.mem_of_getElem? (i := 39) rfl))) (by decide) (t := .long) (t' := .long) (by decide) (by decide))))
  have c228 : Fld Z h219 r0 "com/example/even_bucket/evenbucket/IntervalBucket" "origin" "J" (.long q1) := (F4.other W219 (Or.inr (slot_ne (Or.inl (hw _ (List.mem_of_getElem? (i := 32) rfl))) (Or.inl (hw _ (List.mem_of_getElem? (i := 39) rfl))) (by decide) (t := .long) (t' := .long) (by decide) (by decide))))
  have c229 : Fld Z h219 r0 "com/example/even_bucket/evenbucket/IntervalBucket" "newest" "J" (.long q1) := (F5.other W219 (Or.inr (slot_ne (Or.inl (hw _ (List.mem_of_getElem? (i := 34) rfl))) (Or.inl (hw _ (List.mem_of_getElem? (i := 39) rfl))) (by decide) (t := .long) (t' := .long) (by decide) (by decide))))
  have c230 : Exa Z h219 r0 "com/example/even_bucket/evenbucket/IntervalBucket" := (E1.wr W219)
  obtain ⟨cq223, q223, q223'⟩ := c230.cell
  obtain ⟨_, _, ⟨T223, L223, k223, n223⟩, -, X223, ⟨Lc223, hQ223, l223, y223, z223⟩, st223⟩ := X219.privateBack hx (y := (⟨"com/example/even_bucket/evenbucket/IntervalBucket", "permitsAt", "(J)J"⟩ : MethodName)) hown (mvT hZ (hw _ (List.mem_of_getElem? (i := 40) rfl))) (mvT hZ (hw _ (List.mem_of_getElem? (i := 41) rfl))) (Jvm.Kit.selects_private (by decide) (mvT hZ (hw _ (List.mem_of_getElem? (i := 10) rfl))) (mvP hZ (hw _ (List.mem_of_getElem? (i := 42) rfl))) (mvT hZ (hw _ (List.mem_of_getElem? (i := 41) rfl)))) (Cond.privateMethod_at (mvP hZ (hw _ (List.mem_of_getElem? (i := 42) rfl)) (args := #[]))) (mvT hZ (hw _ (List.mem_of_getElem? (i := 43) rfl))) (by decide) (backOf (W := 0) (rm6 l Z a0 hw [] r0 q1 uc ur up ux h219 n0 (Nat.le_trans Z0 K220.1) c224 c225 c226 c227 c228 c229 c230 hd hr) hZ (hw _ (List.mem_of_getElem? (i := 43) rfl)) (hw _ (List.mem_of_getElem? (i := 11) rfl)) (by decide) (by decide)) (g := (mkF m 47 #[.val (.ref r0), .val (.long q1), .second, .val (.long q1), .second, .unset, .unset] [(.long q1), (.ref r0)])) rfl (by rw [hml]; rfl) (Steps.refl _) (a := r0) (by rw [e219]; exact q223) q223' (argsL := [(.long q1)]) (rest := []) (lenOf pd__J_J rfl) rfl (by show 2 * 0 + _ ≤ _; exact Nat.le_of_eq rfl) (hb hby d5_47) (fun _ _ => ⟨rfl, e219, (by decide : 0 + 0 ≤ _), (by decide : 0 + 0 ≤ _)⟩)
  dsimp only [Pt.U, Pt.locs, Pt.cells, Pt.slots] at X223 l223 y223 z223 st223 hQ223
  subst l223 y223 z223
  obtain ⟨rfl, Nq223, e223⟩ := hQ223
  have N223 := Fr.app N222 Nq223
  have S231 : ∀ t, Steps p.tables e below (T223.setTop (mkF m 52 #[.val (.ref r0), .val (.long q1), .second, .val (.long q1), .second, .val (.long (f_pa uc ux ur)), .second] [])) t → Steps p.tables e below (s₁.setTop (entryFrame m #[(.ref r0), (.long q1)] 7)) t := by
    intro t kt
    refine S218 _ ?_
    show Steps p.tables e below (T217.setTop (mkF m 40 #[.val (.ref r0), .val (.long q1), .second, .val (.long q1), .second, .unset, .unset] [])) _
    refine XS.aloadN X217.here hx rfl (hb hby d5_40) rfl rfl ?_
    show Steps p.tables e below (T217.setTop (mkF m 41 #[.val (.ref r0), .val (.long q1), .second, .val (.long q1), .second, .unset, .unset] [(.ref r0)])) _
    refine XS.lloadN X217.here hx rfl (hb hby d5_41) rfl ?_
    show Steps p.tables e below (T217.setTop (mkF m 42 #[.val (.ref r0), .val (.long q1), .second, .val (.long q1), .second, .unset, .unset] [(.long q1), (.ref r0)])) _
    refine st219 _ ?_
    show Steps p.tables e below (T219.setTop (mkF m 45 #[.val (.ref r0), .val (.long q1), .second, .val (.long q1), .second, .unset, .unset] [])) _
    refine XS.aloadN X219.here hx rfl (hb hby d5_45) rfl rfl ?_
    show Steps p.tables e below (T219.setTop (mkF m 46 #[.val (.ref r0), .val (.long q1), .second, .val (.long q1), .second, .unset, .unset] [(.ref r0)])) _
    refine XS.lloadN X219.here hx rfl (hb hby d5_46) rfl ?_
    show Steps p.tables e below (T219.setTop (mkF m 47 #[.val (.ref r0), .val (.long q1), .second, .val (.long q1), .second, .unset, .unset] [(.long q1), (.ref r0)])) _
    refine st223.trans ?_
    show Steps p.tables e below (T223.setTop (mkF m 50 #[.val (.ref r0), .val (.long q1), .second, .val (.long q1), .second, .unset, .unset] [(.long (f_pa uc ux ur))])) _
    refine XS.lstore X223.here hx rfl (hb hby d5_50) rfl (l' := #[.val (.ref r0), .val (.long q1), .second, .val (.long q1), .second, .val (.long (f_pa uc ux ur)), .second]) rfl ?_
    exact kt
  rw [(hB : (f_pa uc ux ur) = ux)] at S231
  obtain ⟨T232, h232, X232, e232, W232, st232⟩ := putF X223 hx hZ hown (host := "") (Or.inl (hw _ (List.mem_of_getElem? (i := 35) rfl))) Via.refl e223 c227 c230 (Or.inl (hw _ (List.mem_of_getElem? (i := 36) rfl))) (hw _ (List.mem_of_getElem? (i := 10) rfl)) (ty := .long) (by decide) rfl rfl (g := (mkF m 70 #[.val (.ref r0), .val (.long q1), .second, .val (.long q1), .second, .val (.long ux), .second] [(.long (ux - (1 : Int64))), (.ref r0)])) rfl rfl (hb hby d5_70)
  have K233 : Keep h0 h232 [r0] := K220.wr W232 (Or.inl (List.mem_of_getElem? (i := 0) rfl))
  have c234 : Fld Z h232 r0 "com/example/even_bucket/evenbucket/IntervalBucket" "permits" "J" (.long (ux - (1 : Int64))) := c227.same W232
  have N235 := Fr.snoc X232 N223 g1
  have c236 : Exa Z h232 r0 "com/example/even_bucket/evenbucket/IntervalBucket" := (c230.wr W232)
  have c237 : Fld Z h232 r0 "com/example/even_bucket/evenbucket/IntervalBucket" "newest" "J" (.long q1) := (c229.other W232 (Or.inr (slot_ne (Or.inl (hw _ (List.mem_of_getElem? (i := 34) rfl))) (Or.inl (hw _ (List.mem_of_getElem? (i := 36) rfl))) (by decide) (t := .long) (t' := .long) (by decide) (by decide))))
  obtain ⟨T238, h238, X238, e238, W238, st238⟩ := putF X232 hx hZ hown (host := "") (Or.inl (hw _ (List.mem_of_getElem? (i := 33) rfl))) Via.refl e232 c237 c236 (Or.inl (hw _ (List.mem_of_getElem? (i := 34) rfl))) (hw _ (List.mem_of_getElem? (i := 10) rfl)) (ty := .long) (by decide) rfl rfl (g := (mkF m 75 #[.val (.ref r0), .val (.long q1), .second, .val (.long q1), .second, .val (.long ux), .second] [(.long q1), (.ref r0)])) rfl rfl (hb hby d5_75)
  have K239 : Keep h0 h238 [r0] := K233.wr W238 (Or.inl (List.mem_of_getElem? (i := 0) rfl))
  have c240 : Fld Z h238 r0 "com/example/even_bucket/evenbucket/IntervalBucket" "newest" "J" (.long q1) := c237.same W238
  have N241 := Fr.snoc X238 N235 g1
  have c242 : Fld Z h238 r0 "com/example/even_bucket/evenbucket/IntervalBucket" "permits" "J" (.long (ux - (1 : Int64))) := (c234.other W238 (Or.inr (slot_ne (Or.inl (hw _ (List.mem_of_getElem? (i := 36) rfl))) (Or.inl (hw _ (List.mem_of_getElem? (i := 34) rfl))) (by decide) (t := .long) (t' := .long) (by decide) (by decide))))
  obtain ⟨T243, X243, e243, st243⟩ := getF X238 hx hZ hown (host := "") (Or.inl (hw _ (List.mem_of_getElem? (i := 35) rfl))) Via.refl e238 c242 (g := (mkF m 79 #[.val (.ref r0), .val (.long q1), .second, .val (.long q1), .second, .val (.long ux), .second] [(.ref r0)])) rfl rfl (hb hby d5_79)
  have c245 : Sta Z h238 "java/time/Duration" "ZERO" "Ljava/time/Duration;" (.ref vz) := (((Sz.wr W219).wr W232).wr W238)
  obtain ⟨_, _, ⟨T244, L244, k244, n244⟩, -, X244, ⟨Lc244, hQ244, l244, y244, z244⟩, st244⟩ := Jvm.LawKit.callS X243 hx (y := (⟨"com/example/even_bucket/evenbucket/Decision", "allow", "(J)Lcom/example/even_bucket/evenbucket/Decision;"⟩ : MethodName)) hown (mvT hZ (hw _ (List.mem_of_getElem? (i := 60) rfl))) (mvT hZ (hw _ (List.mem_of_getElem? (i := 61) rfl))) (mvT hZ (hw _ (List.mem_of_getElem? (i := 62) rfl))) (mvT hZ (hw _ (List.mem_of_getElem? (i := 63) rfl))) (by decide) (backOf (W := 0) (rm11 l Z a0 hw [] (ux - (1 : Int64)) vz h238 n0 (Nat.le_trans Z0 K239.1) hn c245) hZ (hw _ (List.mem_of_getElem? (i := 63) rfl)) (hw _ (List.mem_of_getElem? (i := 62) rfl)) (by decide) (by decide)) (g := (mkF m 82 #[.val (.ref r0), .val (.long q1), .second, .val (.long q1), .second, .val (.long ux), .second] [(.long (ux - (1 : Int64)))])) rfl (by rw [hml]; rfl) (argsL := [(.long (ux - (1 : Int64)))]) (rest := []) (lenOf pd__J_Lcom_example_even_bucket_evenbucket_Decision_ rfl) rfl (by show 2 * 0 + _ ≤ _; exact Nat.le_of_eq rfl) (hb hby d5_82) (fun _ _ => ⟨rfl, e243, (by decide : 0 + 1 ≤ _), (by decide : 0 + 3 ≤ _)⟩)
  dsimp only [Pt.U, Pt.locs, Pt.cells, Pt.slots] at X244 l244 y244 z244 st244 hQ244
  subst l244 y244 z244
  obtain ⟨bb_244, rfl, Nq244, Kq244, f244_0, f244_1, f244_2, f244_3⟩ := hQ244
  have K246 : Keep h0 T244.heap [r0] := K239.trans Kq244 (fun x hx => by simp at hx)
  have N244 := Fr.app N241 Nq244
  have ge_bb_244 : n0 ≤ bb_244 := Nat.le_trans (Nat.le_trans Z0 K239.1) f244_0
  have sz_bb_244 : h0.size ≤ bb_244 := Nat.le_trans K239.1 f244_0
  obtain ⟨fs, hrT, hrunT, hendT, hWT, hsameT⟩ := X244.leave (hlocks := BodyLoose.notSynchronized Bd) (v := some (.ref bb_244)) (fun h => by rw [Bd.returns] at h; cases h)
  refine ⟨_, _, S231 _ ?_, hrunT, hendT, _, _, rfl, ?_, ⟨_, rfl⟩, hWT, hsameT.mono (by decide) (by decide)⟩
  · show Steps p.tables e below (T223.setTop (mkF m 52 #[.val (.ref r0), .val (.long q1), .second, .val (.long q1), .second, .val (.long ux), .second] [])) _
    refine XS.lload X223.here hx rfl (hb hby d5_52) rfl ?_
    show Steps p.tables e below (T223.setTop (mkF m 54 #[.val (.ref r0), .val (.long q1), .second, .val (.long q1), .second, .val (.long ux), .second] [(.long ux)])) _
    refine XS.lconst X223.here hx rfl (hb hby d5_54) ?_
    show Steps p.tables e below (T223.setTop (mkF m 55 #[.val (.ref r0), .val (.long q1), .second, .val (.long q1), .second, .val (.long ux), .second] [(.long (0 : Int64)), (.long ux)])) _
    refine XT.lcmp X223.here hx rfl (hb hby d5_55) rfl ?_
    show Steps p.tables e below (T223.setTop (mkF m 56 #[.val (.ref r0), .val (.long q1), .second, .val (.long q1), .second, .val (.long ux), .second] [(.int (XT.cmpL ux (0 : Int64)))])) _
    refine XS.ifYes X223.here hx rfl (pc0 := 56) (pc' := 65) rfl (hb hby d5_56) rfl (XT.ll_ne_t hxx) (by decide) (by decide) ?_
    show Steps p.tables e below (T223.setTop (mkF m 65 #[.val (.ref r0), .val (.long q1), .second, .val (.long q1), .second, .val (.long ux), .second] [])) _
    refine XS.aloadN X223.here hx rfl (hb hby d5_65) rfl rfl ?_
    show Steps p.tables e below (T223.setTop (mkF m 66 #[.val (.ref r0), .val (.long q1), .second, .val (.long q1), .second, .val (.long ux), .second] [(.ref r0)])) _
    refine XS.lload X223.here hx rfl (hb hby d5_66) rfl ?_
    show Steps p.tables e below (T223.setTop (mkF m 68 #[.val (.ref r0), .val (.long q1), .second, .val (.long q1), .second, .val (.long ux), .second] [(.long ux), (.ref r0)])) _
    refine XS.lconst X223.here hx rfl (hb hby d5_68) ?_
    show Steps p.tables e below (T223.setTop (mkF m 69 #[.val (.ref r0), .val (.long q1), .second, .val (.long q1), .second, .val (.long ux), .second] [(.long (1 : Int64)), (.long ux), (.ref r0)])) _
    refine XS.lsub X223.here hx rfl (hb hby d5_69) rfl ?_
    show Steps p.tables e below (T223.setTop (mkF m 70 #[.val (.ref r0), .val (.long q1), .second, .val (.long q1), .second, .val (.long ux), .second] [(.long (ux - (1 : Int64))), (.ref r0)])) _
    refine st232 _ ?_
    show Steps p.tables e below (T232.setTop (mkF m 73 #[.val (.ref r0), .val (.long q1), .second, .val (.long q1), .second, .val (.long ux), .second] [])) _
    refine XS.aloadN X232.here hx rfl (hb hby d5_73) rfl rfl ?_
    show Steps p.tables e below (T232.setTop (mkF m 74 #[.val (.ref r0), .val (.long q1), .second, .val (.long q1), .second, .val (.long ux), .second] [(.ref r0)])) _
    refine XS.lloadN X232.here hx rfl (hb hby d5_74) rfl ?_
    show Steps p.tables e below (T232.setTop (mkF m 75 #[.val (.ref r0), .val (.long q1), .second, .val (.long q1), .second, .val (.long ux), .second] [(.long q1), (.ref r0)])) _
    refine st238 _ ?_
    show Steps p.tables e below (T238.setTop (mkF m 78 #[.val (.ref r0), .val (.long q1), .second, .val (.long q1), .second, .val (.long ux), .second] [])) _
    refine XS.aloadN X238.here hx rfl (hb hby d5_78) rfl rfl ?_
    show Steps p.tables e below (T238.setTop (mkF m 79 #[.val (.ref r0), .val (.long q1), .second, .val (.long q1), .second, .val (.long ux), .second] [(.ref r0)])) _
    refine st243 _ ?_
    show Steps p.tables e below (T243.setTop (mkF m 82 #[.val (.ref r0), .val (.long q1), .second, .val (.long q1), .second, .val (.long ux), .second] [(.long (ux - (1 : Int64)))])) _
    refine st244 _ ?_
    show Steps p.tables e below (T244.setTop (mkF m 85 #[.val (.ref r0), .val (.long q1), .second, .val (.long q1), .second, .val (.long ux), .second] [(.ref bb_244)])) _
    exact retOut X244 hx Bd.returns rfl (by right; right; right; right; exact ⟨rfl, rfl, rfl⟩) (hb hby d5_85) hrT
  · show QtB Z r0 q1 uc ur up ux vz h0 n0 _ T244.heap _
    exact ⟨bb_244, rfl, N244, K246, sz_bb_244, f244_1, f244_2, f244_3⟩
theorem d5_59 : decode prog_33_method_3_code 59 = .ok (.aload_n 0, 1) := by decide +kernel
theorem d5_60 : decode prog_33_method_3_code 60 = .ok (.lload_n 3, 1) := by decide +kernel
theorem d5_61 : decode prog_33_method_3_code 61 = .ok (.invokevirtual 51, 3) := by decide +kernel
theorem d5_64 : decode prog_33_method_3_code 64 = .ok (.areturn, 1) := by decide +kernel
theorem eftC (m : MethodId) (x0 : Addr) (x1 : Int64) : entryFrame m #[(.ref x0), (.long x1)] 7 = mkF m 0 #[.val (.ref x0), .val (.long x1), .second, .unset, .unset, .unset, .unset] [] := by first | (simp [entryFrame, mkF, argsToLocals, Value.category]; done) | rfl
def QtC (Z : State) (r0 : Addr) (q1 : Int64) (uc : Int32) (ur : Int32) (up : Int64) (ux : Int64) (h0 : Heap) (n0 : Nat) (v : Option Value) (h : Heap) (L : List Loc) : Prop := ∃ bb dd : Addr, v = some (.ref bb) ∧ Fr n0 L ∧ Keep h0 h [r0] ∧ h0.size ≤ bb ∧ Exa Z h bb "com/example/even_bucket/evenbucket/Decision" ∧ Fld Z h bb "com/example/even_bucket/evenbucket/Decision" "remaining" "J" (.long (0 : Int64)) ∧ Fld Z h bb "com/example/even_bucket/evenbucket/Decision" "retryAfter" "Ljava/time/Duration;" (.ref dd) ∧ Exa Z h dd "java/time/Duration" ∧ Fld Z h dd "java/time/Duration" "seconds" "J" (.long (f_s (up - (0 : Int64)))) ∧ Fld Z h dd "java/time/Duration" "nanos" "I" (.int (f_n (up - (0 : Int64))))
set_option maxRecDepth 65536 in
set_option maxHeartbeats 40000000 in
theorem rmtC (l : Launch) (Z : State) (a0 : Array Value) (hw : ∀ d ∈ tables_1, d.before a0 Z = true) (ws : List Jvm.Cond) (r0 : Addr) (q1 : Int64) (uc : Int32) (ur : Int32) (up : Int64) (ux : Int64) (h0 : Heap) (n0 : Nat) (Z0 : n0 ≤ h0.size) (F0 : Fld Z h0 r0 "com/example/even_bucket/evenbucket/IntervalBucket" "capacity" "I" (.int uc)) (F1 : Fld Z h0 r0 "com/example/even_bucket/evenbucket/IntervalBucket" "refill" "I" (.int ur)) (F2 : Fld Z h0 r0 "com/example/even_bucket/evenbucket/IntervalBucket" "periodMillis" "J" (.long up)) (F3 : Fld Z h0 r0 "com/example/even_bucket/evenbucket/IntervalBucket" "permits" "J" (.long ux)) (F4 : Fld Z h0 r0 "com/example/even_bucket/evenbucket/IntervalBucket" "origin" "J" (.long q1)) (F5 : Fld Z h0 r0 "com/example/even_bucket/evenbucket/IntervalBucket" "newest" "J" (.long q1)) (F6 : Fld Z h0 r0 "com/example/even_bucket/evenbucket/IntervalBucket" "admitted" "Z" (.int (1 : Int32))) (F7 : Fld Z h0 r0 "com/example/even_bucket/evenbucket/IntervalBucket" "decidedAt" "J" (.long q1)) (E1 : Exa Z h0 r0 "com/example/even_bucket/evenbucket/IntervalBucket") (g1 : n0 ≤ r0) (hd : 1 ≤ up.toInt) (hr : 1 ≤ ur.toInt) (hB : f_pa uc ux ur = ux) (hxx : ux = (0 : Int64)) :
    MetFree l (⟨"com/example/even_bucket/evenbucket/IntervalBucket", "tryAcquire", "(J)Lcom/example/even_bucket/evenbucket/Decision;"⟩ : MethodName) (head1 (Jvm.Cond.code (⟨"com/example/even_bucket/evenbucket/IntervalBucket", "tryAcquire", "(J)Lcom/example/even_bucket/evenbucket/Decision;"⟩ : MethodName) prog_33_method_3_code 7 (some (.object "com/example/even_bucket/evenbucket/Decision")) :: ws) ({ frames := 7, cells := 5, slots := 51, locals := 102 } : Room)) (fun a U => a = #[(.ref r0), (.long q1)] ∧ Z.Warmed39 U.vm ∧ U.heap = h0) (fun _ _ _ _ _ => True) (fun _ U o U' => ∃ v L, o = .returned v ∧ QtC Z r0 q1 uc ur up ux h0 n0 v U'.heap L ∧ ReturnedEndW U o U' L ({ frames := 7, cells := 5, slots := 51, locals := 102 } : Room).cells ({ frames := 7, cells := 5, slots := 51, locals := 102 } : Room).slots) := by
  refine MetFree.of_bodySF (plainFor_of_name pn_IntervalBucket) hisR ?_
  intro p e s m args below meth c s₁ Bd hml0 hP hK
  obtain ⟨rfl, hZ, hh⟩ := hP
  have hx := Bd.exec
  have hby := Bd.bytes
  have hml : c.maxLocals = 7 := hml0
  have hown : s.vm.findClass "com/example/even_bucket/evenbucket/IntervalBucket" = some m.cls := findClass_of_methodNamed Bd.named
  have hnm := (name_of_methodNamed Bd.named Bd.method).1
  have X0 : Stand p l e ({ frames := 7, cells := 5, slots := 51, locals := 102 } : Room) s m #[(.ref r0), (.long q1)] below meth c s₁ [] 0 0 := Stand.of_body Bd
  have e0 : s₁.heap = h0 := by rw [← hh, Bd.state]; rfl
  have N0 := Fr.nil n0
  have pre0 : ∀ t, Steps p.tables e below (s₁.setTop (mkF m 0 #[.val (.ref r0), .val (.long q1), .second, .unset, .unset, .unset, .unset] [])) t → Steps p.tables e below (s₁.setTop (entryFrame m #[(.ref r0), (.long q1)] 7)) t := fun t k => castTop (eftC m r0 q1) k
  obtain ⟨T247, X247, e247, st247⟩ := getF X0 hx hZ hown (host := "") (Or.inl (hw _ (List.mem_of_getElem? (i := 29) rfl))) Via.refl e0 F6 (g := (mkF m 1 #[.val (.ref r0), .val (.long q1), .second, .unset, .unset, .unset, .unset] [(.ref r0)])) rfl rfl (hb hby d5_1)
  obtain ⟨T248, X248, e248, st248⟩ := getF X247 hx hZ hown (host := "") (Or.inl (hw _ (List.mem_of_getElem? (i := 33) rfl))) Via.refl e247 F5 (g := (mkF m 33 #[.val (.ref r0), .val (.long q1), .second, .unset, .unset, .unset, .unset] [(.ref r0), (.long q1)])) rfl rfl (hb hby d5_33)
  obtain ⟨_, _, ⟨T249, L249, k249, n249⟩, -, X249, ⟨Lc249, hQ249, l249, y249, z249⟩, st249⟩ := Jvm.LawKit.callS X248 hx (y := (⟨"java/lang/Math", "max", "(JJ)J"⟩ : MethodName)) hown (mvT hZ (hw _ (List.mem_of_getElem? (i := 37) rfl))) (mvT hZ (hw _ (List.mem_of_getElem? (i := 7) rfl))) (mvT hZ (hw _ (List.mem_of_getElem? (i := 3) rfl))) (mvT hZ (hw _ (List.mem_of_getElem? (i := 8) rfl))) (by decide) (backOf (W := 0) (rm2 l Z a0 hw [] q1 q1 h0 n0 Z0 ) hZ (hw _ (List.mem_of_getElem? (i := 8) rfl)) (hw _ (List.mem_of_getElem? (i := 3) rfl)) (by decide) (by decide)) (g := (mkF m 36 #[.val (.ref r0), .val (.long q1), .second, .unset, .unset, .unset, .unset] [(.long q1), (.long q1)])) rfl (by rw [hml]; rfl) (argsL := [(.long q1), (.long q1)]) (rest := []) (lenOf pd__JJ_J rfl) rfl (by show 2 * 0 + _ ≤ _; exact Nat.le_of_eq rfl) (hb hby d5_36) (fun _ _ => ⟨rfl, e248, (by decide : 0 + 0 ≤ _), (by decide : 0 + 0 ≤ _)⟩)
  dsimp only [Pt.U, Pt.locs, Pt.cells, Pt.slots] at X249 l249 y249 z249 st249 hQ249
  subst l249 y249 z249
  obtain ⟨rfl, Nq249, e249⟩ := hQ249
  have N249 := Fr.app N0 Nq249
  have S250 : ∀ t, Steps p.tables e below (T249.setTop (mkF m 40 #[.val (.ref r0), .val (.long q1), .second, .val (.long (f_maxL q1 q1)), .second, .unset, .unset] [])) t → Steps p.tables e below (s₁.setTop (entryFrame m #[(.ref r0), (.long q1)] 7)) t := by
    intro t kt
    refine pre0 _ ?_
    show Steps p.tables e below (s₁.setTop (mkF m 0 #[.val (.ref r0), .val (.long q1), .second, .unset, .unset, .unset, .unset] [])) _
    refine XS.aloadN X0.here hx rfl (hb hby d5_0) rfl rfl ?_
    show Steps p.tables e below (s₁.setTop (mkF m 1 #[.val (.ref r0), .val (.long q1), .second, .unset, .unset, .unset, .unset] [(.ref r0)])) _
    refine st247 _ ?_
    show Steps p.tables e below (T247.setTop (mkF m 4 #[.val (.ref r0), .val (.long q1), .second, .unset, .unset, .unset, .unset] [(.int (1 : Int32))])) _
    refine XS.ifYes X247.here hx rfl (pc0 := 4) (pc' := 31) rfl (hb hby d5_4) rfl (XT.i0_ne_t (by decide)) (by decide) (by decide) ?_
    show Steps p.tables e below (T247.setTop (mkF m 31 #[.val (.ref r0), .val (.long q1), .second, .unset, .unset, .unset, .unset] [])) _
    refine XS.lloadN X247.here hx rfl (hb hby d5_31) rfl ?_
    show Steps p.tables e below (T247.setTop (mkF m 32 #[.val (.ref r0), .val (.long q1), .second, .unset, .unset, .unset, .unset] [(.long q1)])) _
    refine XS.aloadN X247.here hx rfl (hb hby d5_32) rfl rfl ?_
    show Steps p.tables e below (T247.setTop (mkF m 33 #[.val (.ref r0), .val (.long q1), .second, .unset, .unset, .unset, .unset] [(.ref r0), (.long q1)])) _
    refine st248 _ ?_
    show Steps p.tables e below (T248.setTop (mkF m 36 #[.val (.ref r0), .val (.long q1), .second, .unset, .unset, .unset, .unset] [(.long q1), (.long q1)])) _
    refine st249 _ ?_
    show Steps p.tables e below (T249.setTop (mkF m 39 #[.val (.ref r0), .val (.long q1), .second, .unset, .unset, .unset, .unset] [(.long (f_maxL q1 q1))])) _
    refine XS.lstoreN X249.here hx rfl (hb hby d5_39) rfl (l' := #[.val (.ref r0), .val (.long q1), .second, .val (.long (f_maxL q1 q1)), .second, .unset, .unset]) rfl ?_
    exact kt
  rw [(own_max q1 : (f_maxL q1 q1) = q1)] at S250
  obtain ⟨T251, h251, X251, e251, W251, st251⟩ := putF X249 hx hZ hown (host := "") (Or.inl (hw _ (List.mem_of_getElem? (i := 38) rfl))) Via.refl e249 F7 E1 (Or.inl (hw _ (List.mem_of_getElem? (i := 39) rfl))) (hw _ (List.mem_of_getElem? (i := 10) rfl)) (ty := .long) (by decide) rfl rfl (g := (mkF m 42 #[.val (.ref r0), .val (.long q1), .second, .val (.long q1), .second, .unset, .unset] [(.long q1), (.ref r0)])) rfl rfl (hb hby d5_42)
  have K252 : Keep h0 h251 [r0] := (Keep.refl h0 [r0]).wr W251 (Or.inl (List.mem_of_getElem? (i := 0) rfl))
  have c253 : Fld Z h251 r0 "com/example/even_bucket/evenbucket/IntervalBucket" "decidedAt" "J" (.long q1) := F7.same W251
  have N254 := Fr.snoc X251 N249 g1
  have c256 : Fld Z h251 r0 "com/example/even_bucket/evenbucket/IntervalBucket" "capacity" "I" (.int uc) := (F0.other W251 (Or.inr (slot_ne (Or.inr (hw _ (List.mem_of_getElem? (i := 19) rfl))) (Or.inl (hw _ (List.mem_of_getElem? (i := 39) rfl))) (by decide) (t := .int) (t' := .long) (by decide) (by decide))))
  have c257 : Fld Z h251 r0 "com/example/even_bucket/evenbucket/IntervalBucket" "refill" "I" (.int ur) := (F1.other W251 (Or.inr (slot_ne (Or.inr (hw _ (List.mem_of_getElem? (i := 21) rfl))) (Or.inl (hw _ (List.mem_of_getElem? (i := 39) rfl))) (by decide) (t := .int) (t' := .long) (by decide) (by decide))))
  have c258 : Fld Z h251 r0 "com/example/even_bucket/evenbucket/IntervalBucket" "periodMillis" "J" (.long up) := (F2.other W251 (Or.inr (slot_ne (Or.inr (hw _ (List.mem_of_getElem? (i := 23) rfl))) (Or.inl (hw _ (List.mem_of_getElem? (i := 39) rfl))) (by decide) (t := .long) (t' := .long) (by decide) (by decide))))
  have c259 : Fld Z h251 r0 "com/example/even_bucket/evenbucket/IntervalBucket" "permits" "J" (.long ux) := (F3.other W251 (Or.inr (slot_ne (Or.inl (hw _ (List.mem_of_getElem? (i := 36) rfl))) (Or.inl (hw _ (List.mem_of_getElem? (i := 39) rfl))) (by decide) (t := .long) (t' := .long) (by decide) (by decide))))
  have c260 : Fld Z h251 r0 "com/example/even_bucket/evenbucket/IntervalBucket" "origin" "J" (.long q1) := (F4.other W251 (Or.inr (slot_ne (Or.inl (hw _ (List.mem_of_getElem? (i := 32) rfl))) (Or.inl (hw _ (List.mem_of_getElem? (i := 39) rfl))) (by decide) (t := .long) (t' := .long) (by decide) (by decide))))
  have c261 : Fld Z h251 r0 "com/example/even_bucket/evenbucket/IntervalBucket" "newest" "J" (.long q1) := (F5.other W251 (Or.inr (slot_ne (Or.inl (hw _ (List.mem_of_getElem? (i := 34) rfl))) (Or.inl (hw _ (List.mem_of_getElem? (i := 39) rfl))) (by decide) (t := .long) (t' := .long) (by decide) (by decide))))
  have c262 : Exa Z h251 r0 "com/example/even_bucket/evenbucket/IntervalBucket" := (E1.wr W251)
  obtain ⟨cq255, q255, q255'⟩ := c262.cell
  obtain ⟨_, _, ⟨T255, L255, k255, n255⟩, -, X255, ⟨Lc255, hQ255, l255, y255, z255⟩, st255⟩ := X251.privateBack hx (y := (⟨"com/example/even_bucket/evenbucket/IntervalBucket", "permitsAt", "(J)J"⟩ : MethodName)) hown (mvT hZ (hw _ (List.mem_of_getElem? (i := 40) rfl))) (mvT hZ (hw _ (List.mem_of_getElem? (i := 41) rfl))) (Jvm.Kit.selects_private (by decide) (mvT hZ (hw _ (List.mem_of_getElem? (i := 10) rfl))) (mvP hZ (hw _ (List.mem_of_getElem? (i := 42) rfl))) (mvT hZ (hw _ (List.mem_of_getElem? (i := 41) rfl)))) (Cond.privateMethod_at (mvP hZ (hw _ (List.mem_of_getElem? (i := 42) rfl)) (args := #[]))) (mvT hZ (hw _ (List.mem_of_getElem? (i := 43) rfl))) (by decide) (backOf (W := 0) (rm6 l Z a0 hw [] r0 q1 uc ur up ux h251 n0 (Nat.le_trans Z0 K252.1) c256 c257 c258 c259 c260 c261 c262 hd hr) hZ (hw _ (List.mem_of_getElem? (i := 43) rfl)) (hw _ (List.mem_of_getElem? (i := 11) rfl)) (by decide) (by decide)) (g := (mkF m 47 #[.val (.ref r0), .val (.long q1), .second, .val (.long q1), .second, .unset, .unset] [(.long q1), (.ref r0)])) rfl (by rw [hml]; rfl) (Steps.refl _) (a := r0) (by rw [e251]; exact q255) q255' (argsL := [(.long q1)]) (rest := []) (lenOf pd__J_J rfl) rfl (by show 2 * 0 + _ ≤ _; exact Nat.le_of_eq rfl) (hb hby d5_47) (fun _ _ => ⟨rfl, e251, (by decide : 0 + 0 ≤ _), (by decide : 0 + 0 ≤ _)⟩)
  dsimp only [Pt.U, Pt.locs, Pt.cells, Pt.slots] at X255 l255 y255 z255 st255 hQ255
  subst l255 y255 z255
  obtain ⟨rfl, Nq255, e255⟩ := hQ255
  have N255 := Fr.app N254 Nq255
  have S263 : ∀ t, Steps p.tables e below (T255.setTop (mkF m 52 #[.val (.ref r0), .val (.long q1), .second, .val (.long q1), .second, .val (.long (f_pa uc ux ur)), .second] [])) t → Steps p.tables e below (s₁.setTop (entryFrame m #[(.ref r0), (.long q1)] 7)) t := by
    intro t kt
    refine S250 _ ?_
    show Steps p.tables e below (T249.setTop (mkF m 40 #[.val (.ref r0), .val (.long q1), .second, .val (.long q1), .second, .unset, .unset] [])) _
    refine XS.aloadN X249.here hx rfl (hb hby d5_40) rfl rfl ?_
    show Steps p.tables e below (T249.setTop (mkF m 41 #[.val (.ref r0), .val (.long q1), .second, .val (.long q1), .second, .unset, .unset] [(.ref r0)])) _
    refine XS.lloadN X249.here hx rfl (hb hby d5_41) rfl ?_
    show Steps p.tables e below (T249.setTop (mkF m 42 #[.val (.ref r0), .val (.long q1), .second, .val (.long q1), .second, .unset, .unset] [(.long q1), (.ref r0)])) _
    refine st251 _ ?_
    show Steps p.tables e below (T251.setTop (mkF m 45 #[.val (.ref r0), .val (.long q1), .second, .val (.long q1), .second, .unset, .unset] [])) _
    refine XS.aloadN X251.here hx rfl (hb hby d5_45) rfl rfl ?_
    show Steps p.tables e below (T251.setTop (mkF m 46 #[.val (.ref r0), .val (.long q1), .second, .val (.long q1), .second, .unset, .unset] [(.ref r0)])) _
    refine XS.lloadN X251.here hx rfl (hb hby d5_46) rfl ?_
    show Steps p.tables e below (T251.setTop (mkF m 47 #[.val (.ref r0), .val (.long q1), .second, .val (.long q1), .second, .unset, .unset] [(.long q1), (.ref r0)])) _
    refine st255.trans ?_
    show Steps p.tables e below (T255.setTop (mkF m 50 #[.val (.ref r0), .val (.long q1), .second, .val (.long q1), .second, .unset, .unset] [(.long (f_pa uc ux ur))])) _
    refine XS.lstore X255.here hx rfl (hb hby d5_50) rfl (l' := #[.val (.ref r0), .val (.long q1), .second, .val (.long q1), .second, .val (.long (f_pa uc ux ur)), .second]) rfl ?_
    exact kt
  rw [(hB : (f_pa uc ux ur) = ux)] at S263
  obtain ⟨cq264, q264, q264'⟩ := c262.cell
  obtain ⟨_, _, ⟨T264, L264, k264, n264⟩, -, X264, hS264, gr264, ⟨Lc264, hQ264, l264, y264, z264⟩, st264⟩ := X255.privateBackS hx (y := (⟨"com/example/even_bucket/evenbucket/IntervalBucket", "refusalAt", "(J)Lcom/example/even_bucket/evenbucket/Decision;"⟩ : MethodName)) hown (mvT hZ (hw _ (List.mem_of_getElem? (i := 91) rfl))) (mvT hZ (hw _ (List.mem_of_getElem? (i := 92) rfl))) (Jvm.Kit.selects_private (by decide) (mvT hZ (hw _ (List.mem_of_getElem? (i := 10) rfl))) (mvP hZ (hw _ (List.mem_of_getElem? (i := 93) rfl))) (mvT hZ (hw _ (List.mem_of_getElem? (i := 92) rfl)))) (Cond.privateMethod_at (mvP hZ (hw _ (List.mem_of_getElem? (i := 93) rfl)) (args := #[]))) (mvT hZ (hw _ (List.mem_of_getElem? (i := 94) rfl))) (by decide) (backOfS (W := 0) (rm15 l Z a0 hw [] r0 q1 up h251 n0 (Nat.le_trans Z0 K252.1) c258 c260 hd) hZ (hw _ (List.mem_of_getElem? (i := 94) rfl)) (hw _ (List.mem_of_getElem? (i := 11) rfl)) (by decide) (by decide)) (g := (mkF m 61 #[.val (.ref r0), .val (.long q1), .second, .val (.long q1), .second, .val (.long ux), .second] [(.long q1), (.ref r0)])) rfl (by rw [hml]; rfl) (Steps.refl _) (a := r0) (by rw [e255]; exact q264) q264' (argsL := [(.long q1)]) (rest := []) (lenOf pd__J_Lcom_example_even_bucket_evenbucket_Decision_ rfl) rfl (by show 2 * 0 + _ ≤ _; exact Nat.le_of_eq rfl) (hb hby d5_61) (fun _ _ => ⟨rfl, e255, (by decide : 0 + 5 ≤ _), (by decide : 0 + 51 ≤ _)⟩)
  dsimp only [Pt.U, Pt.locs, Pt.cells, Pt.slots] at X264 l264 y264 z264 st264 hQ264
  subst l264 y264 z264
  dsimp only [Pt.U, Pt.locs, Pt.cells, Pt.slots] at hS264 gr264
  obtain ⟨bb_264, dd_264, rfl, Nq264, Kq264, f264_0, f264_1, f264_2, f264_3, f264_4, f264_5, f264_6⟩ := hQ264
  have K265 : Keep h0 T264.heap [r0] := K252.trans Kq264 (fun x hx => by simp at hx)
  have N264 := Fr.app N255 Nq264
  have hZ264 : Z.Warmed39 (s.setVm T264.vm).vm := State.Warmed39.trans (t := s) hZ hS264.1
  have hown264 : (s.setVm T264.vm).vm.findClass "com/example/even_bucket/evenbucket/IntervalBucket" = some m.cls := (hS264.1.alike.findClass _ _).trans hown
  have ge_bb_264 : n0 ≤ bb_264 := Nat.le_trans (Nat.le_trans Z0 K252.1) f264_0
  have sz_bb_264 : h0.size ≤ bb_264 := Nat.le_trans K252.1 f264_0
  obtain ⟨fs, hrT, hrunT, hendT, hRW⟩ := X264.leaveW (hlocks := BodyLoose.notSynchronized Bd) hS264 (v := some (.ref bb_264)) (Nat.le_refl _) (fun h => by rw [Bd.returns] at h; cases h)
  refine ⟨_, _, S263 _ ?_, hrunT, hendT, _, _, rfl, ?_, hRW.1, hRW.2.1, hRW.2.2.1, hRW.2.2.2.mono (by decide) (by decide)⟩
  · show Steps p.tables e below (T255.setTop (mkF m 52 #[.val (.ref r0), .val (.long q1), .second, .val (.long q1), .second, .val (.long ux), .second] [])) _
    refine XS.lload X255.here hx rfl (hb hby d5_52) rfl ?_
    show Steps p.tables e below (T255.setTop (mkF m 54 #[.val (.ref r0), .val (.long q1), .second, .val (.long q1), .second, .val (.long ux), .second] [(.long ux)])) _
    refine XS.lconst X255.here hx rfl (hb hby d5_54) ?_
    show Steps p.tables e below (T255.setTop (mkF m 55 #[.val (.ref r0), .val (.long q1), .second, .val (.long q1), .second, .val (.long ux), .second] [(.long (0 : Int64)), (.long ux)])) _
    refine XT.lcmp X255.here hx rfl (hb hby d5_55) rfl ?_
    show Steps p.tables e below (T255.setTop (mkF m 56 #[.val (.ref r0), .val (.long q1), .second, .val (.long q1), .second, .val (.long ux), .second] [(.int (XT.cmpL ux (0 : Int64)))])) _
    refine XS.ifNo X255.here hx rfl (hb hby d5_56) rfl (XT.ll_ne_f hxx) ?_
    show Steps p.tables e below (T255.setTop (mkF m 59 #[.val (.ref r0), .val (.long q1), .second, .val (.long q1), .second, .val (.long ux), .second] [])) _
    refine XS.aloadN X255.here hx rfl (hb hby d5_59) rfl rfl ?_
    show Steps p.tables e below (T255.setTop (mkF m 60 #[.val (.ref r0), .val (.long q1), .second, .val (.long q1), .second, .val (.long ux), .second] [(.ref r0)])) _
    refine XS.lloadN X255.here hx rfl (hb hby d5_60) rfl ?_
    show Steps p.tables e below (T255.setTop (mkF m 61 #[.val (.ref r0), .val (.long q1), .second, .val (.long q1), .second, .val (.long ux), .second] [(.long q1), (.ref r0)])) _
    refine st264.trans ?_
    show Steps p.tables e below (T264.setTop (mkF m 64 #[.val (.ref r0), .val (.long q1), .second, .val (.long q1), .second, .val (.long ux), .second] [(.ref bb_264)])) _
    exact retOut X264 hx Bd.returns rfl (by right; right; right; right; exact ⟨rfl, rfl, rfl⟩) (hb hby d5_64) hrT
  · show QtC Z r0 q1 uc ur up ux h0 n0 _ T264.heap _
    exact ⟨bb_264, dd_264, rfl, N264, K265, sz_bb_264, f264_1, f264_2, f264_3, f264_4, f264_5, f264_6⟩
theorem d13_0 : decode prog_33_method_6_code 0 = .ok (.aload_n 0, 1) := by decide +kernel
theorem d13_1 : decode prog_33_method_6_code 1 = .ok (.dup, 1) := by decide +kernel
theorem d13_2 : decode prog_33_method_6_code 2 = .ok (.getfield 36, 3) := by decide +kernel
theorem d13_5 : decode prog_33_method_6_code 5 = .ok (.iload_n 1, 1) := by decide +kernel
theorem d13_6 : decode prog_33_method_6_code 6 = .ok (.i2l, 1) := by decide +kernel
theorem d13_7 : decode prog_33_method_6_code 7 = .ok (.lsub, 1) := by decide +kernel
theorem d13_8 : decode prog_33_method_6_code 8 = .ok (.putfield 36, 3) := by decide +kernel
theorem d13_11 : decode prog_33_method_6_code 11 = .ok (.return_, 1) := by decide +kernel
theorem ef13 (m : MethodId) (x0 : Addr) (x1 : Int32) : entryFrame m #[(.ref x0), (.int x1)] 2 = mkF m 0 #[.val (.ref x0), .val (.int x1)] [] := by first | (simp [entryFrame, mkF, argsToLocals, Value.category]; done) | rfl
def Q13 (Z : State) (r0 : Addr) (p1 : Int32) (uc : Int32) (ur : Int32) (up : Int64) (ux : Int64) (uo : Int64) (un : Int64) (ua : Int32) (ut : Int64) (h0 : Heap) (n0 : Nat) (v : Option Value) (h : Heap) (L : List Loc) : Prop := v = none ∧ Fr n0 L ∧ Keep h0 h [r0] ∧ Fld Z h r0 "com/example/even_bucket/evenbucket/IntervalBucket" "capacity" "I" (.int uc) ∧ Fld Z h r0 "com/example/even_bucket/evenbucket/IntervalBucket" "refill" "I" (.int ur) ∧ Fld Z h r0 "com/example/even_bucket/evenbucket/IntervalBucket" "periodMillis" "J" (.long up) ∧ Fld Z h r0 "com/example/even_bucket/evenbucket/IntervalBucket" "permits" "J" (.long (ux - (p1.toInt64))) ∧ Fld Z h r0 "com/example/even_bucket/evenbucket/IntervalBucket" "origin" "J" (.long uo) ∧ Fld Z h r0 "com/example/even_bucket/evenbucket/IntervalBucket" "newest" "J" (.long un) ∧ Fld Z h r0 "com/example/even_bucket/evenbucket/IntervalBucket" "admitted" "Z" (.int ua) ∧ Fld Z h r0 "com/example/even_bucket/evenbucket/IntervalBucket" "decidedAt" "J" (.long ut)
set_option maxRecDepth 65536 in
set_option maxHeartbeats 40000000 in
theorem rm13 (l : Launch) (Z : State) (a0 : Array Value) (hw : ∀ d ∈ tables_1, d.before a0 Z = true) (ws : List Jvm.Cond) (r0 : Addr) (p1 : Int32) (uc : Int32) (ur : Int32) (up : Int64) (ux : Int64) (uo : Int64) (un : Int64) (ua : Int32) (ut : Int64) (h0 : Heap) (n0 : Nat) (Z0 : n0 ≤ h0.size) (F0 : Fld Z h0 r0 "com/example/even_bucket/evenbucket/IntervalBucket" "capacity" "I" (.int uc)) (F1 : Fld Z h0 r0 "com/example/even_bucket/evenbucket/IntervalBucket" "refill" "I" (.int ur)) (F2 : Fld Z h0 r0 "com/example/even_bucket/evenbucket/IntervalBucket" "periodMillis" "J" (.long up)) (F3 : Fld Z h0 r0 "com/example/even_bucket/evenbucket/IntervalBucket" "permits" "J" (.long ux)) (F4 : Fld Z h0 r0 "com/example/even_bucket/evenbucket/IntervalBucket" "origin" "J" (.long uo)) (F5 : Fld Z h0 r0 "com/example/even_bucket/evenbucket/IntervalBucket" "newest" "J" (.long un)) (F6 : Fld Z h0 r0 "com/example/even_bucket/evenbucket/IntervalBucket" "admitted" "Z" (.int ua)) (F7 : Fld Z h0 r0 "com/example/even_bucket/evenbucket/IntervalBucket" "decidedAt" "J" (.long ut)) (E1 : Exa Z h0 r0 "com/example/even_bucket/evenbucket/IntervalBucket") (g1 : n0 ≤ r0) :
    MetFree l (⟨"com/example/even_bucket/evenbucket/IntervalBucket", "recordAtLatestDecision", "(I)V"⟩ : MethodName) (head1 (Jvm.Cond.code (⟨"com/example/even_bucket/evenbucket/IntervalBucket", "recordAtLatestDecision", "(I)V"⟩ : MethodName) prog_33_method_6_code 2 none :: ws) ({ frames := 0, cells := 0, slots := 0, locals := 0 } : Room)) (fun a U => a = #[(.ref r0), (.int p1)] ∧ Z.Warmed39 U.vm ∧ U.heap = h0) (fun _ _ _ _ _ => True) (fun _ U o U' => ∃ v L, o = .returned v ∧ Q13 Z r0 p1 uc ur up ux uo un ua ut h0 n0 v U'.heap L ∧ FrameEnd U o U' L ({ frames := 0, cells := 0, slots := 0, locals := 0 } : Room).cells ({ frames := 0, cells := 0, slots := 0, locals := 0 } : Room).slots) := by
  refine MetFree.of_bodySF (plainFor_of_name pn_IntervalBucket) hisR ?_
  intro p e s m args below meth c s₁ Bd hml0 hP hK
  obtain ⟨rfl, hZ, hh⟩ := hP
  have hx := Bd.exec
  have hby := Bd.bytes
  have hml : c.maxLocals = 2 := hml0
  have hown : s.vm.findClass "com/example/even_bucket/evenbucket/IntervalBucket" = some m.cls := findClass_of_methodNamed Bd.named
  have hnm := (name_of_methodNamed Bd.named Bd.method).1
  have X0 : Stand p l e ({ frames := 0, cells := 0, slots := 0, locals := 0 } : Room) s m #[(.ref r0), (.int p1)] below meth c s₁ [] 0 0 := Stand.of_body Bd
  have e0 : s₁.heap = h0 := by rw [← hh, Bd.state]; rfl
  have N0 := Fr.nil n0
  have pre0 : ∀ t, Steps p.tables e below (s₁.setTop (mkF m 0 #[.val (.ref r0), .val (.int p1)] [])) t → Steps p.tables e below (s₁.setTop (entryFrame m #[(.ref r0), (.int p1)] 2)) t := fun t k => castTop (ef13 m r0 p1) k
  obtain ⟨T266, X266, e266, st266⟩ := getF X0 hx hZ hown (host := "") (Or.inl (hw _ (List.mem_of_getElem? (i := 35) rfl))) Via.refl e0 F3 (g := (mkF m 2 #[.val (.ref r0), .val (.int p1)] [(.ref r0), (.ref r0)])) rfl rfl (hb hby d13_2)
  obtain ⟨T267, h267, X267, e267, W267, st267⟩ := putF X266 hx hZ hown (host := "") (Or.inl (hw _ (List.mem_of_getElem? (i := 35) rfl))) Via.refl e266 F3 E1 (Or.inl (hw _ (List.mem_of_getElem? (i := 36) rfl))) (hw _ (List.mem_of_getElem? (i := 10) rfl)) (ty := .long) (by decide) rfl rfl (g := (mkF m 8 #[.val (.ref r0), .val (.int p1)] [(.long (ux - (p1.toInt64))), (.ref r0)])) rfl rfl (hb hby d13_8)
  have K268 : Keep h0 h267 [r0] := (Keep.refl h0 [r0]).wr W267 (Or.inl (List.mem_of_getElem? (i := 0) rfl))
  have c269 : Fld Z h267 r0 "com/example/even_bucket/evenbucket/IntervalBucket" "permits" "J" (.long (ux - (p1.toInt64))) := F3.same W267
  have N270 := Fr.snoc X267 N0 g1
  obtain ⟨fs, hrT, hrunT, hendT, hWT, hsameT⟩ := X267.leave (hlocks := BodyLoose.notSynchronized Bd) (v := none) (fun _ => rfl)
  refine ⟨_, _, pre0 _ ?_, hrunT, hendT, _, _, rfl, ?_, ⟨_, rfl⟩, hWT, hsameT.mono (by decide) (by decide)⟩
  · show Steps p.tables e below (s₁.setTop (mkF m 0 #[.val (.ref r0), .val (.int p1)] [])) _
    refine XS.aloadN X0.here hx rfl (hb hby d13_0) rfl rfl ?_
    show Steps p.tables e below (s₁.setTop (mkF m 1 #[.val (.ref r0), .val (.int p1)] [(.ref r0)])) _
    refine XS.dup X0.here hx rfl (hb hby d13_1) rfl rfl ?_
    show Steps p.tables e below (s₁.setTop (mkF m 2 #[.val (.ref r0), .val (.int p1)] [(.ref r0), (.ref r0)])) _
    refine st266 _ ?_
    show Steps p.tables e below (T266.setTop (mkF m 5 #[.val (.ref r0), .val (.int p1)] [(.long ux), (.ref r0)])) _
    refine XS.iloadN X266.here hx rfl (hb hby d13_5) rfl ?_
    show Steps p.tables e below (T266.setTop (mkF m 6 #[.val (.ref r0), .val (.int p1)] [(.int p1), (.long ux), (.ref r0)])) _
    refine XS.i2l X266.here hx rfl (hb hby d13_6) rfl ?_
    show Steps p.tables e below (T266.setTop (mkF m 7 #[.val (.ref r0), .val (.int p1)] [(.long (p1.toInt64)), (.long ux), (.ref r0)])) _
    refine XS.lsub X266.here hx rfl (hb hby d13_7) rfl ?_
    show Steps p.tables e below (T266.setTop (mkF m 8 #[.val (.ref r0), .val (.int p1)] [(.long (ux - (p1.toInt64))), (.ref r0)])) _
    refine st267 _ ?_
    show Steps p.tables e below (T267.setTop (mkF m 11 #[.val (.ref r0), .val (.int p1)] [])) _
    exact X267.returnOut hx Bd.returns (hb hby d13_11) hrT
  · show Q13 Z r0 p1 uc ur up ux uo un ua ut h0 n0 _ T267.heap _
    rw [e267]
    have c271 : Fld Z h267 r0 "com/example/even_bucket/evenbucket/IntervalBucket" "capacity" "I" (.int uc) := (F0.other W267 (Or.inr (slot_ne (Or.inr (hw _ (List.mem_of_getElem? (i := 19) rfl))) (Or.inl (hw _ (List.mem_of_getElem? (i := 36) rfl))) (by decide) (t := .int) (t' := .long) (by decide) (by decide))))
    have c272 : Fld Z h267 r0 "com/example/even_bucket/evenbucket/IntervalBucket" "refill" "I" (.int ur) := (F1.other W267 (Or.inr (slot_ne (Or.inr (hw _ (List.mem_of_getElem? (i := 21) rfl))) (Or.inl (hw _ (List.mem_of_getElem? (i := 36) rfl))) (by decide) (t := .int) (t' := .long) (by decide) (by decide))))
    have c273 : Fld Z h267 r0 "com/example/even_bucket/evenbucket/IntervalBucket" "periodMillis" "J" (.long up) := (F2.other W267 (Or.inr (slot_ne (Or.inr (hw _ (List.mem_of_getElem? (i := 23) rfl))) (Or.inl (hw _ (List.mem_of_getElem? (i := 36) rfl))) (by decide) (t := .long) (t' := .long) (by decide) (by decide))))
    have c274 : Fld Z h267 r0 "com/example/even_bucket/evenbucket/IntervalBucket" "origin" "J" (.long uo) := (F4.other W267 (Or.inr (slot_ne (Or.inl (hw _ (List.mem_of_getElem? (i := 32) rfl))) (Or.inl (hw _ (List.mem_of_getElem? (i := 36) rfl))) (by decide) (t := .long) (t' := .long) (by decide) (by decide))))
    have c275 : Fld Z h267 r0 "com/example/even_bucket/evenbucket/IntervalBucket" "newest" "J" (.long un) := (F5.other W267 (Or.inr (slot_ne (Or.inl (hw _ (List.mem_of_getElem? (i := 34) rfl))) (Or.inl (hw _ (List.mem_of_getElem? (i := 36) rfl))) (by decide) (t := .long) (t' := .long) (by decide) (by decide))))
    have c276 : Fld Z h267 r0 "com/example/even_bucket/evenbucket/IntervalBucket" "admitted" "Z" (.int ua) := (F6.other W267 (Or.inr (slot_ne (Or.inl (hw _ (List.mem_of_getElem? (i := 30) rfl))) (Or.inl (hw _ (List.mem_of_getElem? (i := 36) rfl))) (by decide) (t := .boolean) (t' := .long) (by decide) (by decide))))
    have c277 : Fld Z h267 r0 "com/example/even_bucket/evenbucket/IntervalBucket" "decidedAt" "J" (.long ut) := (F7.other W267 (Or.inr (slot_ne (Or.inl (hw _ (List.mem_of_getElem? (i := 39) rfl))) (Or.inl (hw _ (List.mem_of_getElem? (i := 36) rfl))) (by decide) (t := .long) (t' := .long) (by decide) (by decide))))
    exact ⟨rfl, N270, K268, c271, c272, c273, c269, c274, c275, c276, c277⟩
theorem d27_0 : decode jdk_30_method_1_code 0 = .ok (.aload_n 0, 1) := by decide +kernel
theorem d27_1 : decode jdk_30_method_1_code 1 = .ok (.invokespecial 1, 3) := by decide +kernel
theorem d27_4 : decode jdk_30_method_1_code 4 = .ok (.return_, 1) := by decide +kernel
theorem pn_Record : plainName "java/lang/Record" = true := by first | (simp [plainName, overriddenIn]; done) | decide +kernel
theorem ef27 (m : MethodId) (x0 : Addr) : entryFrame m #[(.ref x0)] 1 = mkF m 0 #[.val (.ref x0)] [] := by first | (simp [entryFrame, mkF, argsToLocals, Value.category]; done) | rfl
def Q27 (Z : State) (r0 : Addr) (h0 : Heap) (n0 : Nat) (v : Option Value) (h : Heap) (L : List Loc) : Prop := v = none ∧ Fr n0 L ∧ h = h0
set_option maxRecDepth 65536 in
set_option maxHeartbeats 40000000 in
theorem rm27 (l : Launch) (Z : State) (a0 : Array Value) (hw : ∀ d ∈ tables_1, d.before a0 Z = true) (ws : List Jvm.Cond) (r0 : Addr) (h0 : Heap) (n0 : Nat) (Z0 : n0 ≤ h0.size) :
    MetFree l (⟨"java/lang/Record", "<init>", "()V"⟩ : MethodName) (head1 (Jvm.Cond.code (⟨"java/lang/Record", "<init>", "()V"⟩ : MethodName) jdk_30_method_1_code 1 none :: ws) ({ frames := 1, cells := 0, slots := 0, locals := 12 } : Room)) (fun a U => a = #[(.ref r0)] ∧ Z.Warmed39 U.vm ∧ U.heap = h0) (fun _ _ _ _ _ => True) (fun _ U o U' => ∃ v L, o = .returned v ∧ Q27 Z r0 h0 n0 v U'.heap L ∧ FrameEnd U o U' L ({ frames := 1, cells := 0, slots := 0, locals := 12 } : Room).cells ({ frames := 1, cells := 0, slots := 0, locals := 12 } : Room).slots) := by
  refine MetFree.of_bodySF (plainFor_of_name pn_Record) hisR ?_
  intro p e s m args below meth c s₁ Bd hml0 hP hK
  obtain ⟨rfl, hZ, hh⟩ := hP
  have hx := Bd.exec
  have hby := Bd.bytes
  have hml : c.maxLocals = 1 := hml0
  have hown : s.vm.findClass "java/lang/Record" = some m.cls := findClass_of_methodNamed Bd.named
  have hnm := (name_of_methodNamed Bd.named Bd.method).1
  have X0 : Stand p l e ({ frames := 1, cells := 0, slots := 0, locals := 12 } : Room) s m #[(.ref r0)] below meth c s₁ [] 0 0 := Stand.of_body Bd
  have e0 : s₁.heap = h0 := by rw [← hh, Bd.state]; rfl
  have N0 := Fr.nil n0
  have pre0 : ∀ t, Steps p.tables e below (s₁.setTop (mkF m 0 #[.val (.ref r0)] [])) t → Steps p.tables e below (s₁.setTop (entryFrame m #[(.ref r0)] 1)) t := fun t k => castTop (ef27 m r0) k
  obtain ⟨T278, X278, e278, st278⟩ := initO X0 hx hZ hown (hw _ (List.mem_of_getElem? (i := 160) rfl)) (hw _ (List.mem_of_getElem? (i := 16) rfl)) (hw _ (List.mem_of_getElem? (i := 17) rfl)) e0 (g := (mkF m 1 #[.val (.ref r0)] [(.ref r0)])) rfl (by rw [hml]; rfl) rfl (hb hby d27_1) (by decide) (W := 0) (by show 2 * 0 + _ ≤ _; exact Nat.le_of_eq rfl) (by decide)
  obtain ⟨fs, hrT, hrunT, hendT, hWT, hsameT⟩ := X278.leave (hlocks := BodyLoose.notSynchronized Bd) (v := none) (fun _ => rfl)
  refine ⟨_, _, pre0 _ ?_, hrunT, hendT, _, _, rfl, ?_, ⟨_, rfl⟩, hWT, hsameT.mono (by decide) (by decide)⟩
  · show Steps p.tables e below (s₁.setTop (mkF m 0 #[.val (.ref r0)] [])) _
    refine XS.aloadN X0.here hx rfl (hb hby d27_0) rfl rfl ?_
    show Steps p.tables e below (s₁.setTop (mkF m 1 #[.val (.ref r0)] [(.ref r0)])) _
    refine st278 _ ?_
    show Steps p.tables e below (T278.setTop (mkF m 4 #[.val (.ref r0)] [])) _
    exact X278.returnOut hx Bd.returns (hb hby d27_4) hrT
  · show Q27 Z r0 h0 n0 _ T278.heap _
    rw [e278]
    exact ⟨rfl, N0, rfl⟩
theorem d26_0 : decode prog_12_method_1_code 0 = .ok (.aload_n 0, 1) := by decide +kernel
theorem pd___V : parseMethodDescriptor "()V" = some ⟨[], none⟩ := by decide +kernel
theorem d26_1 : decode prog_12_method_1_code 1 = .ok (.invokespecial 1, 3) := by decide +kernel
theorem d26_4 : decode prog_12_method_1_code 4 = .ok (.aload_n 0, 1) := by decide +kernel
theorem d26_5 : decode prog_12_method_1_code 5 = .ok (.lload_n 1, 1) := by decide +kernel
theorem d26_6 : decode prog_12_method_1_code 6 = .ok (.putfield 7, 3) := by decide +kernel
theorem d26_9 : decode prog_12_method_1_code 9 = .ok (.aload_n 0, 1) := by decide +kernel
theorem d26_10 : decode prog_12_method_1_code 10 = .ok (.iload_n 3, 1) := by decide +kernel
theorem d26_11 : decode prog_12_method_1_code 11 = .ok (.putfield 13, 3) := by decide +kernel
theorem d26_14 : decode prog_12_method_1_code 14 = .ok (.aload_n 0, 1) := by decide +kernel
theorem d26_15 : decode prog_12_method_1_code 15 = .ok (.lload 4, 2) := by decide +kernel
theorem d26_17 : decode prog_12_method_1_code 17 = .ok (.putfield 17, 3) := by decide +kernel
theorem d26_20 : decode prog_12_method_1_code 20 = .ok (.aload_n 0, 1) := by decide +kernel
theorem d26_21 : decode prog_12_method_1_code 21 = .ok (.aload 6, 2) := by decide +kernel
theorem d26_23 : decode prog_12_method_1_code 23 = .ok (.putfield 20, 3) := by decide +kernel
theorem d26_26 : decode prog_12_method_1_code 26 = .ok (.return_, 1) := by decide +kernel
theorem pn_Admissions_Moment : plainName "com/example/even_bucket/evenbucket/Admissions$Moment" = true := by first | (simp [plainName, overriddenIn]; done) | decide +kernel
theorem ef26 (m : MethodId) (x0 : Addr) (x1 : Int64) (x2 : Int32) (x3 : Int64) (x4 : Addr) : entryFrame m #[(.ref x0), (.long x1), (.int x2), (.long x3), (.ref x4)] 7 = mkF m 0 #[.val (.ref x0), .val (.long x1), .second, .val (.int x2), .val (.long x3), .second, .val (.ref x4)] [] := by first | (simp [entryFrame, mkF, argsToLocals, Value.category]; done) | rfl
def Q26 (Z : State) (r0 : Addr) (q1 : Int64) (p2 : Int32) (q3 : Int64) (r4 : Addr) (h0 : Heap) (n0 : Nat) (v : Option Value) (h : Heap) (L : List Loc) : Prop := v = none ∧ Fr n0 L ∧ Keep h0 h [r0] ∧ Fld Z h r0 "com/example/even_bucket/evenbucket/Admissions$Moment" "millis" "J" (.long q1) ∧ Fld Z h r0 "com/example/even_bucket/evenbucket/Admissions$Moment" "free" "I" (.int p2) ∧ Fld Z h r0 "com/example/even_bucket/evenbucket/Admissions$Moment" "newest" "J" (.long q3) ∧ Fld Z h r0 "com/example/even_bucket/evenbucket/Admissions$Moment" "refusal" "Lcom/example/even_bucket/evenbucket/Decision;" (.ref r4)
set_option maxRecDepth 65536 in
set_option maxHeartbeats 40000000 in
theorem rm26 (l : Launch) (Z : State) (a0 : Array Value) (hw : ∀ d ∈ tables_1, d.before a0 Z = true) (ws : List Jvm.Cond) (r0 : Addr) (q1 : Int64) (p2 : Int32) (q3 : Int64) (r4 : Addr) (h0 : Heap) (n0 : Nat) (Z0 : n0 ≤ h0.size) (F0 : Fld Z h0 r0 "com/example/even_bucket/evenbucket/Admissions$Moment" "millis" "J" (.long (0 : Int64))) (F1 : Fld Z h0 r0 "com/example/even_bucket/evenbucket/Admissions$Moment" "free" "I" (.int (0 : Int32))) (F2 : Fld Z h0 r0 "com/example/even_bucket/evenbucket/Admissions$Moment" "newest" "J" (.long (0 : Int64))) (F3 : Fld Z h0 r0 "com/example/even_bucket/evenbucket/Admissions$Moment" "refusal" "Lcom/example/even_bucket/evenbucket/Decision;" .null) (E1 : Exa Z h0 r0 "com/example/even_bucket/evenbucket/Admissions$Moment") (g1 : n0 ≤ r0) :
    MetFree l (⟨"com/example/even_bucket/evenbucket/Admissions$Moment", "<init>", "(JIJLcom/example/even_bucket/evenbucket/Decision;)V"⟩ : MethodName) (head1 (Jvm.Cond.code (⟨"com/example/even_bucket/evenbucket/Admissions$Moment", "<init>", "(JIJLcom/example/even_bucket/evenbucket/Decision;)V"⟩ : MethodName) prog_12_method_1_code 7 none :: ws) ({ frames := 2, cells := 0, slots := 0, locals := 24 } : Room)) (fun a U => a = #[(.ref r0), (.long q1), (.int p2), (.long q3), (.ref r4)] ∧ Z.Warmed39 U.vm ∧ U.heap = h0) (fun _ _ _ _ _ => True) (fun _ U o U' => ∃ v L, o = .returned v ∧ Q26 Z r0 q1 p2 q3 r4 h0 n0 v U'.heap L ∧ FrameEnd U o U' L ({ frames := 2, cells := 0, slots := 0, locals := 24 } : Room).cells ({ frames := 2, cells := 0, slots := 0, locals := 24 } : Room).slots) := by
  refine MetFree.of_bodySF (plainFor_of_name pn_Admissions_Moment) hisR ?_
  intro p e s m args below meth c s₁ Bd hml0 hP hK
  obtain ⟨rfl, hZ, hh⟩ := hP
  have hx := Bd.exec
  have hby := Bd.bytes
  have hml : c.maxLocals = 7 := hml0
  have hown : s.vm.findClass "com/example/even_bucket/evenbucket/Admissions$Moment" = some m.cls := findClass_of_methodNamed Bd.named
  have hnm := (name_of_methodNamed Bd.named Bd.method).1
  have X0 : Stand p l e ({ frames := 2, cells := 0, slots := 0, locals := 24 } : Room) s m #[(.ref r0), (.long q1), (.int p2), (.long q3), (.ref r4)] below meth c s₁ [] 0 0 := Stand.of_body Bd
  have e0 : s₁.heap = h0 := by rw [← hh, Bd.state]; rfl
  have N0 := Fr.nil n0
  have pre0 : ∀ t, Steps p.tables e below (s₁.setTop (mkF m 0 #[.val (.ref r0), .val (.long q1), .second, .val (.int p2), .val (.long q3), .second, .val (.ref r4)] [])) t → Steps p.tables e below (s₁.setTop (entryFrame m #[(.ref r0), (.long q1), (.int p2), (.long q3), (.ref r4)] 7)) t := fun t k => castTop (ef26 m r0 q1 p2 q3 r4) k
  obtain ⟨_, _, ⟨T279, L279, k279, n279⟩, -, X279, ⟨Lc279, hQ279, l279, y279, z279⟩, st279⟩ := X0.specialBack hx (y := (⟨"java/lang/Record", "<init>", "()V"⟩ : MethodName)) rfl hown (mvT hZ (hw _ (List.mem_of_getElem? (i := 155) rfl))) (mvT hZ (hw _ (List.mem_of_getElem? (i := 156) rfl))) (mvT hZ (hw _ (List.mem_of_getElem? (i := 159) rfl))) (by decide) (backOf (W := 0) (rm27 l Z a0 hw [] r0 h0 n0 Z0 ) hZ (hw _ (List.mem_of_getElem? (i := 159) rfl)) (hw _ (List.mem_of_getElem? (i := 158) rfl)) (by decide) (by decide)) (g := (mkF m 1 #[.val (.ref r0), .val (.long q1), .second, .val (.int p2), .val (.long q3), .second, .val (.ref r4)] [(.ref r0)])) rfl (by rw [hml]; rfl) (Steps.refl _) (a := r0) (argsL := []) (rest := []) (lenOf pd___V rfl) rfl (by show 2 * 0 + _ ≤ _; exact Nat.le_of_eq rfl) (hb hby d26_1) (fun _ _ => ⟨rfl, e0, (by decide : 0 + 0 ≤ _), (by decide : 0 + 0 ≤ _)⟩)
  dsimp only [Pt.U, Pt.locs, Pt.cells, Pt.slots] at X279 l279 y279 z279 st279 hQ279
  subst l279 y279 z279
  obtain ⟨rfl, Nq279, e279⟩ := hQ279
  have N279 := Fr.app N0 Nq279
  obtain ⟨T280, h280, X280, e280, W280, st280⟩ := putF X279 hx hZ hown (host := "") (Or.inl (hw _ (List.mem_of_getElem? (i := 161) rfl))) Via.refl e279 F0 E1 (Or.inr ⟨(hw _ (List.mem_of_getElem? (i := 162) rfl)), rfl, hnm⟩) (hw _ (List.mem_of_getElem? (i := 89) rfl)) (ty := .long) (by decide) rfl rfl (g := (mkF m 6 #[.val (.ref r0), .val (.long q1), .second, .val (.int p2), .val (.long q3), .second, .val (.ref r4)] [(.long q1), (.ref r0)])) rfl rfl (hb hby d26_6)
  have K281 : Keep h0 h280 [r0] := (Keep.refl h0 [r0]).wr W280 (Or.inl (List.mem_of_getElem? (i := 0) rfl))
  have c282 : Fld Z h280 r0 "com/example/even_bucket/evenbucket/Admissions$Moment" "millis" "J" (.long q1) := F0.same W280
  have N283 := Fr.snoc X280 N279 g1
  have c284 : Exa Z h280 r0 "com/example/even_bucket/evenbucket/Admissions$Moment" := (E1.wr W280)
  have c285 : Fld Z h280 r0 "com/example/even_bucket/evenbucket/Admissions$Moment" "free" "I" (.int (0 : Int32)) := (F1.other W280 (Or.inr (slot_ne (Or.inr (hw _ (List.mem_of_getElem? (i := 164) rfl))) (Or.inr (hw _ (List.mem_of_getElem? (i := 162) rfl))) (by decide) (t := .int) (t' := .long) (by decide) (by decide))))
  obtain ⟨T286, h286, X286, e286, W286, st286⟩ := putF X280 hx hZ hown (host := "") (Or.inl (hw _ (List.mem_of_getElem? (i := 163) rfl))) Via.refl e280 c285 c284 (Or.inr ⟨(hw _ (List.mem_of_getElem? (i := 164) rfl)), rfl, hnm⟩) (hw _ (List.mem_of_getElem? (i := 89) rfl)) (ty := .int) (by decide) rfl rfl (g := (mkF m 11 #[.val (.ref r0), .val (.long q1), .second, .val (.int p2), .val (.long q3), .second, .val (.ref r4)] [(.int p2), (.ref r0)])) rfl rfl (hb hby d26_11)
  have K287 : Keep h0 h286 [r0] := K281.wr W286 (Or.inl (List.mem_of_getElem? (i := 0) rfl))
  have c288 : Fld Z h286 r0 "com/example/even_bucket/evenbucket/Admissions$Moment" "free" "I" (.int p2) := c285.same W286
  have N289 := Fr.snoc X286 N283 g1
  have c290 : Exa Z h286 r0 "com/example/even_bucket/evenbucket/Admissions$Moment" := (c284.wr W286)
  have c291 : Fld Z h286 r0 "com/example/even_bucket/evenbucket/Admissions$Moment" "newest" "J" (.long (0 : Int64)) := ((F2.other W280 (Or.inr (slot_ne (Or.inr (hw _ (List.mem_of_getElem? (i := 166) rfl))) (Or.inr (hw _ (List.mem_of_getElem? (i := 162) rfl))) (by decide) (t := .long) (t' := .long) (by decide) (by decide)))).other W286 (Or.inr (slot_ne (Or.inr (hw _ (List.mem_of_getElem? (i := 166) rfl))) (Or.inr (hw _ (List.mem_of_getElem? (i := 164) rfl))) (by decide) (t := .long) (t' := .int) (by decide) (by decide))))
  obtain ⟨T292, h292, X292, e292, W292, st292⟩ := putF X286 hx hZ hown (host := "") (Or.inl (hw _ (List.mem_of_getElem? (i := 165) rfl))) Via.refl e286 c291 c290 (Or.inr ⟨(hw _ (List.mem_of_getElem? (i := 166) rfl)), rfl, hnm⟩) (hw _ (List.mem_of_getElem? (i := 89) rfl)) (ty := .long) (by decide) rfl rfl (g := (mkF m 17 #[.val (.ref r0), .val (.long q1), .second, .val (.int p2), .val (.long q3), .second, .val (.ref r4)] [(.long q3), (.ref r0)])) rfl rfl (hb hby d26_17)
  have K293 : Keep h0 h292 [r0] := K287.wr W292 (Or.inl (List.mem_of_getElem? (i := 0) rfl))
  have c294 : Fld Z h292 r0 "com/example/even_bucket/evenbucket/Admissions$Moment" "newest" "J" (.long q3) := c291.same W292
  have N295 := Fr.snoc X292 N289 g1
  have c296 : Exa Z h292 r0 "com/example/even_bucket/evenbucket/Admissions$Moment" := (c290.wr W292)
  have c297 : Fld Z h292 r0 "com/example/even_bucket/evenbucket/Admissions$Moment" "refusal" "Lcom/example/even_bucket/evenbucket/Decision;" .null := (((F3.other W280 (Or.inr (slot_ne (Or.inr (hw _ (List.mem_of_getElem? (i := 168) rfl))) (Or.inr (hw _ (List.mem_of_getElem? (i := 162) rfl))) (by decide) (t := (.object "com/example/even_bucket/evenbucket/Decision")) (t' := .long) (by decide) (by decide)))).other W286 (Or.inr (slot_ne (Or.inr (hw _ (List.mem_of_getElem? (i := 168) rfl))) (Or.inr (hw _ (List.mem_of_getElem? (i := 164) rfl))) (by decide) (t := (.object "com/example/even_bucket/evenbucket/Decision")) (t' := .int) (by decide) (by decide)))).other W292 (Or.inr (slot_ne (Or.inr (hw _ (List.mem_of_getElem? (i := 168) rfl))) (Or.inr (hw _ (List.mem_of_getElem? (i := 166) rfl))) (by decide) (t := (.object "com/example/even_bucket/evenbucket/Decision")) (t' := .long) (by decide) (by decide))))
  obtain ⟨T298, h298, X298, e298, W298, st298⟩ := putF X292 hx hZ hown (host := "") (Or.inl (hw _ (List.mem_of_getElem? (i := 167) rfl))) Via.refl e292 c297 c296 (Or.inr ⟨(hw _ (List.mem_of_getElem? (i := 168) rfl)), rfl, hnm⟩) (hw _ (List.mem_of_getElem? (i := 89) rfl)) (ty := (.object "com/example/even_bucket/evenbucket/Decision")) (by decide) rfl rfl (g := (mkF m 23 #[.val (.ref r0), .val (.long q1), .second, .val (.int p2), .val (.long q3), .second, .val (.ref r4)] [(.ref r4), (.ref r0)])) rfl rfl (hb hby d26_23)
  have K299 : Keep h0 h298 [r0] := K293.wr W298 (Or.inl (List.mem_of_getElem? (i := 0) rfl))
  have c300 : Fld Z h298 r0 "com/example/even_bucket/evenbucket/Admissions$Moment" "refusal" "Lcom/example/even_bucket/evenbucket/Decision;" (.ref r4) := c297.same W298
  have N301 := Fr.snoc X298 N295 g1
  obtain ⟨fs, hrT, hrunT, hendT, hWT, hsameT⟩ := X298.leave (hlocks := BodyLoose.notSynchronized Bd) (v := none) (fun _ => rfl)
  refine ⟨_, _, pre0 _ ?_, hrunT, hendT, _, _, rfl, ?_, ⟨_, rfl⟩, hWT, hsameT.mono (by decide) (by decide)⟩
  · show Steps p.tables e below (s₁.setTop (mkF m 0 #[.val (.ref r0), .val (.long q1), .second, .val (.int p2), .val (.long q3), .second, .val (.ref r4)] [])) _
    refine XS.aloadN X0.here hx rfl (hb hby d26_0) rfl rfl ?_
    show Steps p.tables e below (s₁.setTop (mkF m 1 #[.val (.ref r0), .val (.long q1), .second, .val (.int p2), .val (.long q3), .second, .val (.ref r4)] [(.ref r0)])) _
    refine st279.trans ?_
    show Steps p.tables e below (T279.setTop (mkF m 4 #[.val (.ref r0), .val (.long q1), .second, .val (.int p2), .val (.long q3), .second, .val (.ref r4)] [])) _
    refine XS.aloadN X279.here hx rfl (hb hby d26_4) rfl rfl ?_
    show Steps p.tables e below (T279.setTop (mkF m 5 #[.val (.ref r0), .val (.long q1), .second, .val (.int p2), .val (.long q3), .second, .val (.ref r4)] [(.ref r0)])) _
    refine XS.lloadN X279.here hx rfl (hb hby d26_5) rfl ?_
    show Steps p.tables e below (T279.setTop (mkF m 6 #[.val (.ref r0), .val (.long q1), .second, .val (.int p2), .val (.long q3), .second, .val (.ref r4)] [(.long q1), (.ref r0)])) _
    refine st280 _ ?_
    show Steps p.tables e below (T280.setTop (mkF m 9 #[.val (.ref r0), .val (.long q1), .second, .val (.int p2), .val (.long q3), .second, .val (.ref r4)] [])) _
    refine XS.aloadN X280.here hx rfl (hb hby d26_9) rfl rfl ?_
    show Steps p.tables e below (T280.setTop (mkF m 10 #[.val (.ref r0), .val (.long q1), .second, .val (.int p2), .val (.long q3), .second, .val (.ref r4)] [(.ref r0)])) _
    refine XS.iloadN X280.here hx rfl (hb hby d26_10) rfl ?_
    show Steps p.tables e below (T280.setTop (mkF m 11 #[.val (.ref r0), .val (.long q1), .second, .val (.int p2), .val (.long q3), .second, .val (.ref r4)] [(.int p2), (.ref r0)])) _
    refine st286 _ ?_
    show Steps p.tables e below (T286.setTop (mkF m 14 #[.val (.ref r0), .val (.long q1), .second, .val (.int p2), .val (.long q3), .second, .val (.ref r4)] [])) _
    refine XS.aloadN X286.here hx rfl (hb hby d26_14) rfl rfl ?_
    show Steps p.tables e below (T286.setTop (mkF m 15 #[.val (.ref r0), .val (.long q1), .second, .val (.int p2), .val (.long q3), .second, .val (.ref r4)] [(.ref r0)])) _
    refine XS.lload X286.here hx rfl (hb hby d26_15) rfl ?_
    show Steps p.tables e below (T286.setTop (mkF m 17 #[.val (.ref r0), .val (.long q1), .second, .val (.int p2), .val (.long q3), .second, .val (.ref r4)] [(.long q3), (.ref r0)])) _
    refine st292 _ ?_
    show Steps p.tables e below (T292.setTop (mkF m 20 #[.val (.ref r0), .val (.long q1), .second, .val (.int p2), .val (.long q3), .second, .val (.ref r4)] [])) _
    refine XS.aloadN X292.here hx rfl (hb hby d26_20) rfl rfl ?_
    show Steps p.tables e below (T292.setTop (mkF m 21 #[.val (.ref r0), .val (.long q1), .second, .val (.int p2), .val (.long q3), .second, .val (.ref r4)] [(.ref r0)])) _
    refine XS.aload X292.here hx rfl (hb hby d26_21) rfl rfl ?_
    show Steps p.tables e below (T292.setTop (mkF m 23 #[.val (.ref r0), .val (.long q1), .second, .val (.int p2), .val (.long q3), .second, .val (.ref r4)] [(.ref r4), (.ref r0)])) _
    refine st298 _ ?_
    show Steps p.tables e below (T298.setTop (mkF m 26 #[.val (.ref r0), .val (.long q1), .second, .val (.int p2), .val (.long q3), .second, .val (.ref r4)] [])) _
    exact X298.returnOut hx Bd.returns (hb hby d26_26) hrT
  · show Q26 Z r0 q1 p2 q3 r4 h0 n0 _ T298.heap _
    rw [e298]
    have c302 : Fld Z h298 r0 "com/example/even_bucket/evenbucket/Admissions$Moment" "millis" "J" (.long q1) := (((c282.other W286 (Or.inr (slot_ne (Or.inr (hw _ (List.mem_of_getElem? (i := 162) rfl))) (Or.inr (hw _ (List.mem_of_getElem? (i := 164) rfl))) (by decide) (t := .long) (t' := .int) (by decide) (by decide)))).other W292 (Or.inr (slot_ne (Or.inr (hw _ (List.mem_of_getElem? (i := 162) rfl))) (Or.inr (hw _ (List.mem_of_getElem? (i := 166) rfl))) (by decide) (t := .long) (t' := .long) (by decide) (by decide)))).other W298 (Or.inr (slot_ne (Or.inr (hw _ (List.mem_of_getElem? (i := 162) rfl))) (Or.inr (hw _ (List.mem_of_getElem? (i := 168) rfl))) (by decide) (t := .long) (t' := (.object "com/example/even_bucket/evenbucket/Decision")) (by decide) (by decide))))
    have c303 : Fld Z h298 r0 "com/example/even_bucket/evenbucket/Admissions$Moment" "free" "I" (.int p2) := ((c288.other W292 (Or.inr (slot_ne (Or.inr (hw _ (List.mem_of_getElem? (i := 164) rfl))) (Or.inr (hw _ (List.mem_of_getElem? (i := 166) rfl))) (by decide) (t := .int) (t' := .long) (by decide) (by decide)))).other W298 (Or.inr (slot_ne (Or.inr (hw _ (List.mem_of_getElem? (i := 164) rfl))) (Or.inr (hw _ (List.mem_of_getElem? (i := 168) rfl))) (by decide) (t := .int) (t' := (.object "com/example/even_bucket/evenbucket/Decision")) (by decide) (by decide))))
    have c304 : Fld Z h298 r0 "com/example/even_bucket/evenbucket/Admissions$Moment" "newest" "J" (.long q3) := (c294.other W298 (Or.inr (slot_ne (Or.inr (hw _ (List.mem_of_getElem? (i := 166) rfl))) (Or.inr (hw _ (List.mem_of_getElem? (i := 168) rfl))) (by decide) (t := .long) (t' := (.object "com/example/even_bucket/evenbucket/Decision")) (by decide) (by decide))))
    exact ⟨rfl, N301, K299, c302, c303, c304, c300⟩
theorem d14_0 : decode prog_33_method_5_code 0 = .ok (.new 60, 3) := by decide +kernel
theorem d14_3 : decode prog_33_method_5_code 3 = .ok (.dup, 1) := by decide +kernel
theorem d14_4 : decode prog_33_method_5_code 4 = .ok (.aload_n 0, 1) := by decide +kernel
theorem d14_5 : decode prog_33_method_5_code 5 = .ok (.getfield 44, 3) := by decide +kernel
theorem d14_8 : decode prog_33_method_5_code 8 = .ok (.aload_n 0, 1) := by decide +kernel
theorem d14_9 : decode prog_33_method_5_code 9 = .ok (.aload_n 0, 1) := by decide +kernel
theorem d14_10 : decode prog_33_method_5_code 10 = .ok (.getfield 44, 3) := by decide +kernel
theorem d14_13 : decode prog_33_method_5_code 13 = .ok (.invokevirtual 47, 3) := by decide +kernel
theorem d14_16 : decode prog_33_method_5_code 16 = .ok (.l2i, 1) := by decide +kernel
theorem d14_17 : decode prog_33_method_5_code 17 = .ok (.aload_n 0, 1) := by decide +kernel
theorem d14_18 : decode prog_33_method_5_code 18 = .ok (.getfield 33, 3) := by decide +kernel
theorem d14_21 : decode prog_33_method_5_code 21 = .ok (.aload_n 0, 1) := by decide +kernel
theorem d14_22 : decode prog_33_method_5_code 22 = .ok (.aload_n 0, 1) := by decide +kernel
theorem d14_23 : decode prog_33_method_5_code 23 = .ok (.getfield 44, 3) := by decide +kernel
theorem d14_26 : decode prog_33_method_5_code 26 = .ok (.invokevirtual 51, 3) := by decide +kernel
theorem pd__JIJLcom_example_even_bucket_evenbucket_Decision__V : parseMethodDescriptor "(JIJLcom/example/even_bucket/evenbucket/Decision;)V" = some ⟨[.long, .int, .long, (.object "com/example/even_bucket/evenbucket/Decision")], none⟩ := by decide +kernel
theorem d14_29 : decode prog_33_method_5_code 29 = .ok (.invokespecial 62, 3) := by decide +kernel
theorem d14_32 : decode prog_33_method_5_code 32 = .ok (.areturn, 1) := by decide +kernel
theorem ef14 (m : MethodId) (x0 : Addr) : entryFrame m #[(.ref x0)] 1 = mkF m 0 #[.val (.ref x0)] [] := by first | (simp [entryFrame, mkF, argsToLocals, Value.category]; done) | rfl
def Q14 (Z : State) (r0 : Addr) (uc : Int32) (ur : Int32) (up : Int64) (ux : Int64) (ut : Int64) (h0 : Heap) (n0 : Nat) (v : Option Value) (h : Heap) (L : List Loc) : Prop := ∃ bb : Addr, v = some (.ref bb) ∧ Fr n0 L ∧ Keep h0 h [] ∧ h0.size ≤ bb ∧ Exa Z h bb "com/example/even_bucket/evenbucket/Admissions$Moment" ∧ Fld Z h bb "com/example/even_bucket/evenbucket/Admissions$Moment" "millis" "J" (.long ut) ∧ Fld Z h bb "com/example/even_bucket/evenbucket/Admissions$Moment" "free" "I" (.int (ux.toInt32)) ∧ Fld Z h bb "com/example/even_bucket/evenbucket/Admissions$Moment" "newest" "J" (.long ut)
set_option maxRecDepth 65536 in
set_option maxHeartbeats 40000000 in
theorem rm14 (l : Launch) (Z : State) (a0 : Array Value) (hw : ∀ d ∈ tables_1, d.before a0 Z = true) (ws : List Jvm.Cond) (r0 : Addr) (uc : Int32) (ur : Int32) (up : Int64) (ux : Int64) (ut : Int64) (h0 : Heap) (n0 : Nat) (Z0 : n0 ≤ h0.size) (F0 : Fld Z h0 r0 "com/example/even_bucket/evenbucket/IntervalBucket" "capacity" "I" (.int uc)) (F1 : Fld Z h0 r0 "com/example/even_bucket/evenbucket/IntervalBucket" "refill" "I" (.int ur)) (F2 : Fld Z h0 r0 "com/example/even_bucket/evenbucket/IntervalBucket" "periodMillis" "J" (.long up)) (F3 : Fld Z h0 r0 "com/example/even_bucket/evenbucket/IntervalBucket" "permits" "J" (.long ux)) (F4 : Fld Z h0 r0 "com/example/even_bucket/evenbucket/IntervalBucket" "origin" "J" (.long ut)) (F5 : Fld Z h0 r0 "com/example/even_bucket/evenbucket/IntervalBucket" "newest" "J" (.long ut)) (F6 : Fld Z h0 r0 "com/example/even_bucket/evenbucket/IntervalBucket" "decidedAt" "J" (.long ut)) (E1 : Exa Z h0 r0 "com/example/even_bucket/evenbucket/IntervalBucket") (hd : 1 ≤ up.toInt) (hr : 1 ≤ ur.toInt) (hB : f_pa uc ux ur = ux) :
    MetFree l (⟨"com/example/even_bucket/evenbucket/IntervalBucket", "moment", "()Lcom/example/even_bucket/evenbucket/Admissions$Moment;"⟩ : MethodName) (head1 (Jvm.Cond.code (⟨"com/example/even_bucket/evenbucket/IntervalBucket", "moment", "()Lcom/example/even_bucket/evenbucket/Admissions$Moment;"⟩ : MethodName) prog_33_method_5_code 1 (some (.object "com/example/even_bucket/evenbucket/Admissions$Moment")) :: ws) ({ frames := 7, cells := 6, slots := 55, locals := 109 } : Room)) (fun a U => a = #[(.ref r0)] ∧ Z.Warmed39 U.vm ∧ U.heap = h0) (fun _ _ _ _ _ => True) (fun _ U o U' => ∃ v L, o = .returned v ∧ Q14 Z r0 uc ur up ux ut h0 n0 v U'.heap L ∧ ReturnedEndW U o U' L ({ frames := 7, cells := 6, slots := 55, locals := 109 } : Room).cells ({ frames := 7, cells := 6, slots := 55, locals := 109 } : Room).slots) := by
  refine MetFree.of_bodySF (plainFor_of_name pn_IntervalBucket) hisR ?_
  intro p e s m args below meth c s₁ Bd hml0 hP hK
  obtain ⟨rfl, hZ, hh⟩ := hP
  have hx := Bd.exec
  have hby := Bd.bytes
  have hml : c.maxLocals = 1 := hml0
  have hown : s.vm.findClass "com/example/even_bucket/evenbucket/IntervalBucket" = some m.cls := findClass_of_methodNamed Bd.named
  have hnm := (name_of_methodNamed Bd.named Bd.method).1
  have X0 : Stand p l e ({ frames := 7, cells := 6, slots := 55, locals := 109 } : Room) s m #[(.ref r0)] below meth c s₁ [] 0 0 := Stand.of_body Bd
  have e0 : s₁.heap = h0 := by rw [← hh, Bd.state]; rfl
  have N0 := Fr.nil n0
  have pre0 : ∀ t, Steps p.tables e below (s₁.setTop (mkF m 0 #[.val (.ref r0)] [])) t → Steps p.tables e below (s₁.setTop (entryFrame m #[(.ref r0)] 1)) t := fun t k => castTop (ef14 m r0) k
  obtain ⟨T305, h305, X305, e305, E305, A305, D305, -, st305⟩ := newO X0 hx hZ hown (hw _ (List.mem_of_getElem? (i := 88) rfl)) (hw _ (List.mem_of_getElem? (i := 89) rfl)) (hw _ (List.mem_of_getElem? (i := 90) rfl)) e0 (g := (mkF m 0 #[.val (.ref r0)] [])) rfl (hb hby d14_0) (by decide) (by decide)
  obtain ⟨b305, g305⟩ : ∃ z, z = h0.size := ⟨_, rfl⟩
  rw [← g305] at A305 D305 st305
  have ge_b305 : n0 ≤ b305 := Nat.le_trans Z0 (Nat.le_of_eq g305.symm)
  have sz_b305 : h0.size ≤ b305 := Nat.le_of_eq g305.symm
  have K306 : Keep h0 h305 [] := (Keep.refl h0 []).ext E305
  have F307 : Fld Z h305 b305 "com/example/even_bucket/evenbucket/Admissions$Moment" "millis" "J" (.long (0 : Int64)) := D305 (Or.inr (hw _ (List.mem_of_getElem? (i := 162) rfl))) (ty := .long) (by decide)
  have F308 : Fld Z h305 b305 "com/example/even_bucket/evenbucket/Admissions$Moment" "free" "I" (.int (0 : Int32)) := D305 (Or.inr (hw _ (List.mem_of_getElem? (i := 164) rfl))) (ty := .int) (by decide)
  have F309 : Fld Z h305 b305 "com/example/even_bucket/evenbucket/Admissions$Moment" "newest" "J" (.long (0 : Int64)) := D305 (Or.inr (hw _ (List.mem_of_getElem? (i := 166) rfl))) (ty := .long) (by decide)
  have F310 : Fld Z h305 b305 "com/example/even_bucket/evenbucket/Admissions$Moment" "refusal" "Lcom/example/even_bucket/evenbucket/Decision;" .null := D305 (Or.inr (hw _ (List.mem_of_getElem? (i := 168) rfl))) (ty := (.object "com/example/even_bucket/evenbucket/Decision")) (by decide)
  have c311 : Fld Z h305 r0 "com/example/even_bucket/evenbucket/IntervalBucket" "decidedAt" "J" (.long ut) := (F6.ext E305)
  obtain ⟨T312, X312, e312, st312⟩ := getF X305 hx hZ hown (host := "") (Or.inl (hw _ (List.mem_of_getElem? (i := 38) rfl))) Via.refl e305 c311 (g := (mkF m 5 #[.val (.ref r0)] [(.ref r0), (.ref b305), (.ref b305)])) rfl rfl (hb hby d14_5)
  obtain ⟨T313, X313, e313, st313⟩ := getF X312 hx hZ hown (host := "") (Or.inl (hw _ (List.mem_of_getElem? (i := 38) rfl))) Via.refl e312 c311 (g := (mkF m 10 #[.val (.ref r0)] [(.ref r0), (.ref r0), (.long ut), (.ref b305), (.ref b305)])) rfl rfl (hb hby d14_10)
  have c315 : Fld Z h305 r0 "com/example/even_bucket/evenbucket/IntervalBucket" "capacity" "I" (.int uc) := (F0.ext E305)
  have c316 : Fld Z h305 r0 "com/example/even_bucket/evenbucket/IntervalBucket" "refill" "I" (.int ur) := (F1.ext E305)
  have c317 : Fld Z h305 r0 "com/example/even_bucket/evenbucket/IntervalBucket" "periodMillis" "J" (.long up) := (F2.ext E305)
  have c318 : Fld Z h305 r0 "com/example/even_bucket/evenbucket/IntervalBucket" "permits" "J" (.long ux) := (F3.ext E305)
  have c319 : Fld Z h305 r0 "com/example/even_bucket/evenbucket/IntervalBucket" "origin" "J" (.long ut) := (F4.ext E305)
  have c320 : Fld Z h305 r0 "com/example/even_bucket/evenbucket/IntervalBucket" "newest" "J" (.long ut) := (F5.ext E305)
  have c321 : Exa Z h305 r0 "com/example/even_bucket/evenbucket/IntervalBucket" := (E1.ext E305)
  obtain ⟨cq314, q314, q314'⟩ := c321.cell
  obtain ⟨_, _, ⟨T314, L314, k314, n314⟩, -, X314, ⟨Lc314, hQ314, l314, y314, z314⟩, st314⟩ := X313.privateBack hx (y := (⟨"com/example/even_bucket/evenbucket/IntervalBucket", "permitsAt", "(J)J"⟩ : MethodName)) hown (mvT hZ (hw _ (List.mem_of_getElem? (i := 40) rfl))) (mvT hZ (hw _ (List.mem_of_getElem? (i := 41) rfl))) (Jvm.Kit.selects_private (by decide) (mvT hZ (hw _ (List.mem_of_getElem? (i := 10) rfl))) (mvP hZ (hw _ (List.mem_of_getElem? (i := 42) rfl))) (mvT hZ (hw _ (List.mem_of_getElem? (i := 41) rfl)))) (Cond.privateMethod_at (mvP hZ (hw _ (List.mem_of_getElem? (i := 42) rfl)) (args := #[]))) (mvT hZ (hw _ (List.mem_of_getElem? (i := 43) rfl))) (by decide) (backOf (W := 4) (rm6 l Z a0 hw [] r0 ut uc ur up ux h305 n0 (Nat.le_trans Z0 K306.1) c315 c316 c317 c318 c319 c320 c321 hd hr) hZ (hw _ (List.mem_of_getElem? (i := 43) rfl)) (hw _ (List.mem_of_getElem? (i := 11) rfl)) (by decide) (by decide)) (g := (mkF m 13 #[.val (.ref r0)] [(.long ut), (.ref r0), (.long ut), (.ref b305), (.ref b305)])) rfl (by rw [hml]; rfl) (Steps.refl _) (a := r0) (by rw [e313]; exact q314) q314' (argsL := [(.long ut)]) (rest := [(.long ut), (.ref b305), (.ref b305)]) (lenOf pd__J_J rfl) rfl (by show 2 * 0 + _ ≤ _; exact Nat.le_of_eq rfl) (hb hby d14_13) (fun _ _ => ⟨rfl, e313, (by decide : 1 + 0 ≤ _), (by decide : 4 + 0 ≤ _)⟩)
  dsimp only [Pt.U, Pt.locs, Pt.cells, Pt.slots] at X314 l314 y314 z314 st314 hQ314
  subst l314 y314 z314
  obtain ⟨rfl, Nq314, e314⟩ := hQ314
  have N314 := Fr.app N0 Nq314
  have S322 : ∀ t, Steps p.tables e below (T314.setTop (mkF m 16 #[.val (.ref r0)] [(.long (f_pa uc ux ur)), (.long ut), (.ref b305), (.ref b305)])) t → Steps p.tables e below (s₁.setTop (entryFrame m #[(.ref r0)] 1)) t := by
    intro t kt
    refine pre0 _ ?_
    show Steps p.tables e below (s₁.setTop (mkF m 0 #[.val (.ref r0)] [])) _
    refine st305 _ ?_
    show Steps p.tables e below (T305.setTop (mkF m 3 #[.val (.ref r0)] [(.ref b305)])) _
    refine XS.dup X305.here hx rfl (hb hby d14_3) rfl rfl ?_
    show Steps p.tables e below (T305.setTop (mkF m 4 #[.val (.ref r0)] [(.ref b305), (.ref b305)])) _
    refine XS.aloadN X305.here hx rfl (hb hby d14_4) rfl rfl ?_
    show Steps p.tables e below (T305.setTop (mkF m 5 #[.val (.ref r0)] [(.ref r0), (.ref b305), (.ref b305)])) _
    refine st312 _ ?_
    show Steps p.tables e below (T312.setTop (mkF m 8 #[.val (.ref r0)] [(.long ut), (.ref b305), (.ref b305)])) _
    refine XS.aloadN X312.here hx rfl (hb hby d14_8) rfl rfl ?_
    show Steps p.tables e below (T312.setTop (mkF m 9 #[.val (.ref r0)] [(.ref r0), (.long ut), (.ref b305), (.ref b305)])) _
    refine XS.aloadN X312.here hx rfl (hb hby d14_9) rfl rfl ?_
    show Steps p.tables e below (T312.setTop (mkF m 10 #[.val (.ref r0)] [(.ref r0), (.ref r0), (.long ut), (.ref b305), (.ref b305)])) _
    refine st313 _ ?_
    show Steps p.tables e below (T313.setTop (mkF m 13 #[.val (.ref r0)] [(.long ut), (.ref r0), (.long ut), (.ref b305), (.ref b305)])) _
    refine st314.trans ?_
    exact kt
  rw [(hB : (f_pa uc ux ur) = ux)] at S322
  obtain ⟨T323, X323, e323, st323⟩ := getF X314 hx hZ hown (host := "") (Or.inl (hw _ (List.mem_of_getElem? (i := 33) rfl))) Via.refl e314 c320 (g := (mkF m 18 #[.val (.ref r0)] [(.ref r0), (.int (ux.toInt32)), (.long ut), (.ref b305), (.ref b305)])) rfl rfl (hb hby d14_18)
  obtain ⟨T324, X324, e324, st324⟩ := getF X323 hx hZ hown (host := "") (Or.inl (hw _ (List.mem_of_getElem? (i := 38) rfl))) Via.refl e323 c311 (g := (mkF m 23 #[.val (.ref r0)] [(.ref r0), (.ref r0), (.long ut), (.int (ux.toInt32)), (.long ut), (.ref b305), (.ref b305)])) rfl rfl (hb hby d14_23)
  obtain ⟨cq325, q325, q325'⟩ := c321.cell
  obtain ⟨_, _, ⟨T325, L325, k325, n325⟩, -, X325, hS325, gr325, ⟨Lc325, hQ325, l325, y325, z325⟩, st325⟩ := X324.privateBackS hx (y := (⟨"com/example/even_bucket/evenbucket/IntervalBucket", "refusalAt", "(J)Lcom/example/even_bucket/evenbucket/Decision;"⟩ : MethodName)) hown (mvT hZ (hw _ (List.mem_of_getElem? (i := 91) rfl))) (mvT hZ (hw _ (List.mem_of_getElem? (i := 92) rfl))) (Jvm.Kit.selects_private (by decide) (mvT hZ (hw _ (List.mem_of_getElem? (i := 10) rfl))) (mvP hZ (hw _ (List.mem_of_getElem? (i := 93) rfl))) (mvT hZ (hw _ (List.mem_of_getElem? (i := 92) rfl)))) (Cond.privateMethod_at (mvP hZ (hw _ (List.mem_of_getElem? (i := 93) rfl)) (args := #[]))) (mvT hZ (hw _ (List.mem_of_getElem? (i := 94) rfl))) (by decide) (backOfS (W := 7) (rm15 l Z a0 hw [] r0 ut up h305 n0 (Nat.le_trans Z0 K306.1) c317 c319 hd) hZ (hw _ (List.mem_of_getElem? (i := 94) rfl)) (hw _ (List.mem_of_getElem? (i := 11) rfl)) (by decide) (by decide)) (g := (mkF m 26 #[.val (.ref r0)] [(.long ut), (.ref r0), (.long ut), (.int (ux.toInt32)), (.long ut), (.ref b305), (.ref b305)])) rfl (by rw [hml]; rfl) (Steps.refl _) (a := r0) (by rw [e324]; exact q325) q325' (argsL := [(.long ut)]) (rest := [(.long ut), (.int (ux.toInt32)), (.long ut), (.ref b305), (.ref b305)]) (lenOf pd__J_Lcom_example_even_bucket_evenbucket_Decision_ rfl) rfl (by show 2 * 0 + _ ≤ _; exact Nat.le_of_eq rfl) (hb hby d14_26) (fun _ _ => ⟨rfl, e324, (by decide : 1 + 5 ≤ _), (by decide : 4 + 51 ≤ _)⟩)
  dsimp only [Pt.U, Pt.locs, Pt.cells, Pt.slots] at X325 l325 y325 z325 st325 hQ325
  subst l325 y325 z325
  dsimp only [Pt.U, Pt.locs, Pt.cells, Pt.slots] at hS325 gr325
  obtain ⟨bb_325, dd_325, rfl, Nq325, Kq325, f325_0, f325_1, f325_2, f325_3, f325_4, f325_5, f325_6⟩ := hQ325
  have K326 : Keep h0 T325.heap [] := K306.trans Kq325 (fun x hx => by simp at hx)
  have N325 := Fr.app N314 Nq325
  have hZ325 : Z.Warmed39 (s.setVm T325.vm).vm := State.Warmed39.trans (t := s) hZ hS325.1
  have hown325 : (s.setVm T325.vm).vm.findClass "com/example/even_bucket/evenbucket/IntervalBucket" = some m.cls := (hS325.1.alike.findClass _ _).trans hown
  have ge_bb_325 : n0 ≤ bb_325 := Nat.le_trans (Nat.le_trans Z0 K306.1) f325_0
  have sz_bb_325 : h0.size ≤ bb_325 := Nat.le_trans K306.1 f325_0
  have c328 : Fld Z T325.heap b305 "com/example/even_bucket/evenbucket/Admissions$Moment" "millis" "J" (.long (0 : Int64)) := (F307.keep Kq325 List.not_mem_nil)
  have c329 : Fld Z T325.heap b305 "com/example/even_bucket/evenbucket/Admissions$Moment" "free" "I" (.int (0 : Int32)) := (F308.keep Kq325 List.not_mem_nil)
  have c330 : Fld Z T325.heap b305 "com/example/even_bucket/evenbucket/Admissions$Moment" "newest" "J" (.long (0 : Int64)) := (F309.keep Kq325 List.not_mem_nil)
  have c331 : Fld Z T325.heap b305 "com/example/even_bucket/evenbucket/Admissions$Moment" "refusal" "Lcom/example/even_bucket/evenbucket/Decision;" .null := (F310.keep Kq325 List.not_mem_nil)
  have c332 : Exa Z T325.heap b305 "com/example/even_bucket/evenbucket/Admissions$Moment" := (A305.keep Kq325)
  obtain ⟨_, _, ⟨T327, L327, k327, n327⟩, -, X327, ⟨Lc327, hQ327, l327, y327, z327⟩, st327⟩ := X325.specialBack hx (y := (⟨"com/example/even_bucket/evenbucket/Admissions$Moment", "<init>", "(JIJLcom/example/even_bucket/evenbucket/Decision;)V"⟩ : MethodName)) rfl hown325 (mvT hZ325 (hw _ (List.mem_of_getElem? (i := 152) rfl))) (mvT hZ325 (hw _ (List.mem_of_getElem? (i := 153) rfl))) (mvT hZ325 (hw _ (List.mem_of_getElem? (i := 154) rfl))) (by decide) (backOf (W := 1) (rm26 l Z a0 hw [] b305 ut (ux.toInt32) ut bb_325 T325.heap n0 (Nat.le_trans Z0 K326.1) c328 c329 c330 c331 c332 ge_b305) hZ325 (hw _ (List.mem_of_getElem? (i := 154) rfl)) (hw _ (List.mem_of_getElem? (i := 90) rfl)) (by decide) (by decide)) (g := (mkF m 29 #[.val (.ref r0)] [(.ref bb_325), (.long ut), (.int (ux.toInt32)), (.long ut), (.ref b305), (.ref b305)])) rfl (by rw [hml]; rfl) (Steps.refl _) (a := b305) (argsL := [(.long ut), (.int (ux.toInt32)), (.long ut), (.ref bb_325)]) (rest := [(.ref b305)]) (lenOf pd__JIJLcom_example_even_bucket_evenbucket_Decision__V rfl) rfl (by show 2 * 0 + _ ≤ _; exact Nat.le_of_eq rfl) (hb hby d14_29) (fun _ _ => ⟨rfl, rfl, (by decide : 6 + 0 ≤ _), (by decide : 55 + 0 ≤ _)⟩)
  dsimp only [Pt.U, Pt.locs, Pt.cells, Pt.slots] at X327 l327 y327 z327 st327 hQ327
  subst l327 y327 z327
  obtain ⟨rfl, Nq327, Kq327, f327_0, f327_1, f327_2, f327_3⟩ := hQ327
  have K333 : Keep h0 T327.heap [] := K326.trans Kq327 (fun x hx => by cases List.mem_singleton.mp hx; exact Or.inr sz_b305)
  have hk334 : T325.heap.size ≤ T327.heap.size := Nat.le_trans (Nat.le_refl _) Kq327.1
  have N327 := Fr.app N325 Nq327
  obtain ⟨fs, hrT, hrunT, hendT, hRW⟩ := X327.leaveW (hlocks := BodyLoose.notSynchronized Bd) hS325 (v := some (.ref b305)) hk334 (fun h => by rw [Bd.returns] at h; cases h)
  refine ⟨_, _, S322 _ ?_, hrunT, hendT, _, _, rfl, ?_, hRW.1, hRW.2.1, hRW.2.2.1, hRW.2.2.2.mono (by decide) (by decide)⟩
  · show Steps p.tables e below (T314.setTop (mkF m 16 #[.val (.ref r0)] [(.long ux), (.long ut), (.ref b305), (.ref b305)])) _
    refine XS.l2i X314.here hx rfl (hb hby d14_16) rfl ?_
    show Steps p.tables e below (T314.setTop (mkF m 17 #[.val (.ref r0)] [(.int (ux.toInt32)), (.long ut), (.ref b305), (.ref b305)])) _
    refine XS.aloadN X314.here hx rfl (hb hby d14_17) rfl rfl ?_
    show Steps p.tables e below (T314.setTop (mkF m 18 #[.val (.ref r0)] [(.ref r0), (.int (ux.toInt32)), (.long ut), (.ref b305), (.ref b305)])) _
    refine st323 _ ?_
    show Steps p.tables e below (T323.setTop (mkF m 21 #[.val (.ref r0)] [(.long ut), (.int (ux.toInt32)), (.long ut), (.ref b305), (.ref b305)])) _
    refine XS.aloadN X323.here hx rfl (hb hby d14_21) rfl rfl ?_
    show Steps p.tables e below (T323.setTop (mkF m 22 #[.val (.ref r0)] [(.ref r0), (.long ut), (.int (ux.toInt32)), (.long ut), (.ref b305), (.ref b305)])) _
    refine XS.aloadN X323.here hx rfl (hb hby d14_22) rfl rfl ?_
    show Steps p.tables e below (T323.setTop (mkF m 23 #[.val (.ref r0)] [(.ref r0), (.ref r0), (.long ut), (.int (ux.toInt32)), (.long ut), (.ref b305), (.ref b305)])) _
    refine st324 _ ?_
    show Steps p.tables e below (T324.setTop (mkF m 26 #[.val (.ref r0)] [(.long ut), (.ref r0), (.long ut), (.int (ux.toInt32)), (.long ut), (.ref b305), (.ref b305)])) _
    refine st325.trans ?_
    show Steps p.tables e below (T325.setTop (mkF m 29 #[.val (.ref r0)] [(.ref bb_325), (.long ut), (.int (ux.toInt32)), (.long ut), (.ref b305), (.ref b305)])) _
    refine st327.trans ?_
    show Steps p.tables e below (T327.setTop (mkF m 32 #[.val (.ref r0)] [(.ref b305)])) _
    exact retOut X327 hx Bd.returns rfl (by right; right; right; right; exact ⟨rfl, rfl, rfl⟩) (hb hby d14_32) hrT
  · show Q14 Z r0 uc ur up ux ut h0 n0 _ T327.heap _
    have c335 : Exa Z T327.heap b305 "com/example/even_bucket/evenbucket/Admissions$Moment" := (c332.keep Kq327)
    exact ⟨b305, rfl, N327, K333, sz_b305, c335, f327_0, f327_1, f327_2⟩
theorem d28_0 : decode prog_12_method_8_code 0 = .ok (.aload_n 0, 1) := by decide +kernel
theorem d28_1 : decode prog_12_method_8_code 1 = .ok (.getfield 13, 3) := by decide +kernel
theorem d28_4 : decode prog_12_method_8_code 4 = .ok (.ireturn, 1) := by decide +kernel
theorem ef28 (m : MethodId) (x0 : Addr) : entryFrame m #[(.ref x0)] 1 = mkF m 0 #[.val (.ref x0)] [] := by first | (simp [entryFrame, mkF, argsToLocals, Value.category]; done) | rfl
def Q28 (Z : State) (r0 : Addr) (u : Int32) (h0 : Heap) (n0 : Nat) (v : Option Value) (h : Heap) (L : List Loc) : Prop := v = some (.int u) ∧ Fr n0 L ∧ h = h0
set_option maxRecDepth 65536 in
set_option maxHeartbeats 40000000 in
theorem rm28 (l : Launch) (Z : State) (a0 : Array Value) (hw : ∀ d ∈ tables_1, d.before a0 Z = true) (ws : List Jvm.Cond) (r0 : Addr) (u : Int32) (h0 : Heap) (n0 : Nat) (Z0 : n0 ≤ h0.size) (F : Fld Z h0 r0 "com/example/even_bucket/evenbucket/Admissions$Moment" "free" "I" (.int u)) :
    MetFree l (⟨"com/example/even_bucket/evenbucket/Admissions$Moment", "free", "()I"⟩ : MethodName) (head1 (Jvm.Cond.code (⟨"com/example/even_bucket/evenbucket/Admissions$Moment", "free", "()I"⟩ : MethodName) prog_12_method_8_code 1 (some .int) :: ws) ({ frames := 0, cells := 0, slots := 0, locals := 0 } : Room)) (fun a U => a = #[(.ref r0)] ∧ Z.Warmed39 U.vm ∧ U.heap = h0) (fun _ _ _ _ _ => True) (fun _ U o U' => ∃ v L, o = .returned v ∧ Q28 Z r0 u h0 n0 v U'.heap L ∧ FrameEnd U o U' L ({ frames := 0, cells := 0, slots := 0, locals := 0 } : Room).cells ({ frames := 0, cells := 0, slots := 0, locals := 0 } : Room).slots) := by
  refine MetFree.of_bodySF (plainFor_of_name pn_Admissions_Moment) hisR ?_
  intro p e s m args below meth c s₁ Bd hml0 hP hK
  obtain ⟨rfl, hZ, hh⟩ := hP
  have hx := Bd.exec
  have hby := Bd.bytes
  have hml : c.maxLocals = 1 := hml0
  have hown : s.vm.findClass "com/example/even_bucket/evenbucket/Admissions$Moment" = some m.cls := findClass_of_methodNamed Bd.named
  have hnm := (name_of_methodNamed Bd.named Bd.method).1
  have X0 : Stand p l e ({ frames := 0, cells := 0, slots := 0, locals := 0 } : Room) s m #[(.ref r0)] below meth c s₁ [] 0 0 := Stand.of_body Bd
  have e0 : s₁.heap = h0 := by rw [← hh, Bd.state]; rfl
  have N0 := Fr.nil n0
  have pre0 : ∀ t, Steps p.tables e below (s₁.setTop (mkF m 0 #[.val (.ref r0)] [])) t → Steps p.tables e below (s₁.setTop (entryFrame m #[(.ref r0)] 1)) t := fun t k => castTop (ef28 m r0) k
  obtain ⟨T336, X336, e336, st336⟩ := getF X0 hx hZ hown (host := "") (Or.inl (hw _ (List.mem_of_getElem? (i := 163) rfl))) Via.refl e0 F (g := (mkF m 1 #[.val (.ref r0)] [(.ref r0)])) rfl rfl (hb hby d28_1)
  obtain ⟨fs, hrT, hrunT, hendT, hWT, hsameT⟩ := X336.leave (hlocks := BodyLoose.notSynchronized Bd) (v := some (.int u)) (fun h => by rw [Bd.returns] at h; cases h)
  refine ⟨_, _, pre0 _ ?_, hrunT, hendT, _, _, rfl, ?_, ⟨_, rfl⟩, hWT, hsameT.mono (by decide) (by decide)⟩
  · show Steps p.tables e below (s₁.setTop (mkF m 0 #[.val (.ref r0)] [])) _
    refine XS.aloadN X0.here hx rfl (hb hby d28_0) rfl rfl ?_
    show Steps p.tables e below (s₁.setTop (mkF m 1 #[.val (.ref r0)] [(.ref r0)])) _
    refine st336 _ ?_
    show Steps p.tables e below (T336.setTop (mkF m 4 #[.val (.ref r0)] [(.int u)])) _
    exact retI X336 hx Bd.returns (hb hby d28_4) hrT
  · show Q28 Z r0 u h0 n0 _ T336.heap _
    rw [e336]
    exact ⟨rfl, N0, rfl⟩
theorem d30_0 : decode jdk_2316_method_21_code 0 = .ok (.aload_n 0, 1) := by decide +kernel
theorem d30_1 : decode jdk_2316_method_21_code 1 = .ok (.getfield 221, 3) := by decide +kernel
theorem d30_4 : decode jdk_2316_method_21_code 4 = .ok (.aload_n 0, 1) := by decide +kernel
theorem d30_5 : decode jdk_2316_method_21_code 5 = .ok (.getfield 224, 3) := by decide +kernel
theorem d30_8 : decode jdk_2316_method_21_code 8 = .ok (.i2l, 1) := by decide +kernel
theorem d30_9 : decode jdk_2316_method_21_code 9 = .ok (.lor, 1) := by decide +kernel
theorem d30_10 : decode jdk_2316_method_21_code 10 = .ok (.lconst 0, 1) := by decide +kernel
theorem d30_11 : decode jdk_2316_method_21_code 11 = .ok (.lcmp, 1) := by decide +kernel
theorem d30_12 : decode jdk_2316_method_21_code 12 = .ok (.ifCond .ne 7, 3) := by decide +kernel
theorem d30_15 : decode jdk_2316_method_21_code 15 = .ok (.iconst 1, 1) := by decide +kernel
theorem d30_16 : decode jdk_2316_method_21_code 16 = .ok (.goto 4, 3) := by decide +kernel
theorem d30_20 : decode jdk_2316_method_21_code 20 = .ok (.ireturn, 1) := by decide +kernel
theorem d30_19 : decode jdk_2316_method_21_code 19 = .ok (.iconst 0, 1) := by decide +kernel
def f_iz (us : Int64) (un : Int32) : Int32 := (if (us ||| (un.toInt64)) = (0 : Int64) then (1 : Int32) else (0 : Int32))
theorem ef30 (m : MethodId) (x0 : Addr) : entryFrame m #[(.ref x0)] 1 = mkF m 0 #[.val (.ref x0)] [] := by first | (simp [entryFrame, mkF, argsToLocals, Value.category]; done) | rfl
def Q30 (Z : State) (r0 : Addr) (us : Int64) (un : Int32) (h0 : Heap) (n0 : Nat) (v : Option Value) (h : Heap) (L : List Loc) : Prop := v = some (.int (f_iz us un)) ∧ Fr n0 L ∧ h = h0
set_option maxRecDepth 65536 in
set_option maxHeartbeats 40000000 in
theorem rm30 (l : Launch) (Z : State) (a0 : Array Value) (hw : ∀ d ∈ tables_1, d.before a0 Z = true) (ws : List Jvm.Cond) (r0 : Addr) (us : Int64) (un : Int32) (h0 : Heap) (n0 : Nat) (Z0 : n0 ≤ h0.size) (F0 : Fld Z h0 r0 "java/time/Duration" "seconds" "J" (.long us)) (F1 : Fld Z h0 r0 "java/time/Duration" "nanos" "I" (.int un)) :
    MetFree l (⟨"java/time/Duration", "isZero", "()Z"⟩ : MethodName) (head1 (Jvm.Cond.code (⟨"java/time/Duration", "isZero", "()Z"⟩ : MethodName) jdk_2316_method_21_code 1 (some .boolean) :: ws) ({ frames := 0, cells := 0, slots := 0, locals := 0 } : Room)) (fun a U => a = #[(.ref r0)] ∧ Z.Warmed39 U.vm ∧ U.heap = h0) (fun _ _ _ _ _ => True) (fun _ U o U' => ∃ v L, o = .returned v ∧ Q30 Z r0 us un h0 n0 v U'.heap L ∧ FrameEnd U o U' L ({ frames := 0, cells := 0, slots := 0, locals := 0 } : Room).cells ({ frames := 0, cells := 0, slots := 0, locals := 0 } : Room).slots) := by
  refine MetFree.of_bodySF (plainFor_of_name pn_Duration) hisR ?_
  intro p e s m args below meth c s₁ Bd hml0 hP hK
  obtain ⟨rfl, hZ, hh⟩ := hP
  have hx := Bd.exec
  have hby := Bd.bytes
  have hml : c.maxLocals = 1 := hml0
  have hown : s.vm.findClass "java/time/Duration" = some m.cls := findClass_of_methodNamed Bd.named
  have hnm := (name_of_methodNamed Bd.named Bd.method).1
  have X0 : Stand p l e ({ frames := 0, cells := 0, slots := 0, locals := 0 } : Room) s m #[(.ref r0)] below meth c s₁ [] 0 0 := Stand.of_body Bd
  have e0 : s₁.heap = h0 := by rw [← hh, Bd.state]; rfl
  have N0 := Fr.nil n0
  have pre0 : ∀ t, Steps p.tables e below (s₁.setTop (mkF m 0 #[.val (.ref r0)] [])) t → Steps p.tables e below (s₁.setTop (entryFrame m #[(.ref r0)] 1)) t := fun t k => castTop (ef30 m r0) k
  obtain ⟨T337, X337, e337, st337⟩ := getF X0 hx hZ hown (host := "") (Or.inl (hw _ (List.mem_of_getElem? (i := 116) rfl))) Via.refl e0 F0 (g := (mkF m 1 #[.val (.ref r0)] [(.ref r0)])) rfl rfl (hb hby d30_1)
  obtain ⟨T338, X338, e338, st338⟩ := getF X337 hx hZ hown (host := "") (Or.inl (hw _ (List.mem_of_getElem? (i := 118) rfl))) Via.refl e337 F1 (g := (mkF m 5 #[.val (.ref r0)] [(.ref r0), (.long us)])) rfl rfl (hb hby d30_5)
  have S339 : ∀ t, Steps p.tables e below (T338.setTop (mkF m 12 #[.val (.ref r0)] [(.int (XT.cmpL (us ||| (un.toInt64)) (0 : Int64)))])) t → Steps p.tables e below (s₁.setTop (entryFrame m #[(.ref r0)] 1)) t := by
    intro t kt
    refine pre0 _ ?_
    show Steps p.tables e below (s₁.setTop (mkF m 0 #[.val (.ref r0)] [])) _
    refine XS.aloadN X0.here hx rfl (hb hby d30_0) rfl rfl ?_
    show Steps p.tables e below (s₁.setTop (mkF m 1 #[.val (.ref r0)] [(.ref r0)])) _
    refine st337 _ ?_
    show Steps p.tables e below (T337.setTop (mkF m 4 #[.val (.ref r0)] [(.long us)])) _
    refine XS.aloadN X337.here hx rfl (hb hby d30_4) rfl rfl ?_
    show Steps p.tables e below (T337.setTop (mkF m 5 #[.val (.ref r0)] [(.ref r0), (.long us)])) _
    refine st338 _ ?_
    show Steps p.tables e below (T338.setTop (mkF m 8 #[.val (.ref r0)] [(.int un), (.long us)])) _
    refine XS.i2l X338.here hx rfl (hb hby d30_8) rfl ?_
    show Steps p.tables e below (T338.setTop (mkF m 9 #[.val (.ref r0)] [(.long (un.toInt64)), (.long us)])) _
    refine XS.lor X338.here hx rfl (hb hby d30_9) rfl ?_
    show Steps p.tables e below (T338.setTop (mkF m 10 #[.val (.ref r0)] [(.long (us ||| (un.toInt64)))])) _
    refine XS.lconst X338.here hx rfl (hb hby d30_10) ?_
    show Steps p.tables e below (T338.setTop (mkF m 11 #[.val (.ref r0)] [(.long (0 : Int64)), (.long (us ||| (un.toInt64)))])) _
    refine XT.lcmp X338.here hx rfl (hb hby d30_11) rfl ?_
    exact kt
  by_cases hc12_340 : (us ||| (un.toInt64)) = (0 : Int64)
  case pos =>
    obtain ⟨fs, hrT, hrunT, hendT, hWT, hsameT⟩ := X338.leave (hlocks := BodyLoose.notSynchronized Bd) (v := some (.int (1 : Int32))) (fun h => by rw [Bd.returns] at h; cases h)
    refine ⟨_, _, S339 _ ?_, hrunT, hendT, _, _, rfl, ?_, ⟨_, rfl⟩, hWT, hsameT.mono (by decide) (by decide)⟩
    · show Steps p.tables e below (T338.setTop (mkF m 12 #[.val (.ref r0)] [(.int (XT.cmpL (us ||| (un.toInt64)) (0 : Int64)))])) _
      refine XS.ifNo X338.here hx rfl (hb hby d30_12) rfl (XT.ll_ne_f hc12_340) ?_
      show Steps p.tables e below (T338.setTop (mkF m 15 #[.val (.ref r0)] [])) _
      refine XS.iconst X338.here hx rfl (hb hby d30_15) ?_
      show Steps p.tables e below (T338.setTop (mkF m 16 #[.val (.ref r0)] [(.int (1 : Int32))])) _
      refine XS.goto X338.here hx rfl (pc0 := 16) (pc' := 20) rfl (hb hby d30_16) (by decide) (by decide) ?_
      show Steps p.tables e below (T338.setTop (mkF m 20 #[.val (.ref r0)] [(.int (1 : Int32))])) _
      exact retN X338 hx (t := .boolean) Bd.returns (by simp) (hb hby d30_20) hrT
    · show Q30 Z r0 us un h0 n0 _ T338.heap _
      rw [e338]
      have hv : f_iz us un = (1 : Int32) := by unfold f_iz; rw [if_pos hc12_340]
      exact ⟨(congrArg (fun z => some (Value.int z)) hv.symm), N0, rfl⟩
  case neg =>
    obtain ⟨fs, hrT, hrunT, hendT, hWT, hsameT⟩ := X338.leave (hlocks := BodyLoose.notSynchronized Bd) (v := some (.int (0 : Int32))) (fun h => by rw [Bd.returns] at h; cases h)
    refine ⟨_, _, S339 _ ?_, hrunT, hendT, _, _, rfl, ?_, ⟨_, rfl⟩, hWT, hsameT.mono (by decide) (by decide)⟩
    · show Steps p.tables e below (T338.setTop (mkF m 12 #[.val (.ref r0)] [(.int (XT.cmpL (us ||| (un.toInt64)) (0 : Int64)))])) _
      refine XS.ifYes X338.here hx rfl (pc0 := 12) (pc' := 19) rfl (hb hby d30_12) rfl (XT.ll_ne_t hc12_340) (by decide) (by decide) ?_
      show Steps p.tables e below (T338.setTop (mkF m 19 #[.val (.ref r0)] [])) _
      refine XS.iconst X338.here hx rfl (hb hby d30_19) ?_
      show Steps p.tables e below (T338.setTop (mkF m 20 #[.val (.ref r0)] [(.int (0 : Int32))])) _
      exact retN X338 hx (t := .boolean) Bd.returns (by simp) (hb hby d30_20) hrT
    · show Q30 Z r0 us un h0 n0 _ T338.heap _
      rw [e338]
      have hv : f_iz us un = (0 : Int32) := by unfold f_iz; rw [if_neg hc12_340]
      exact ⟨(congrArg (fun z => some (Value.int z)) hv.symm), N0, rfl⟩
theorem d29_0 : decode prog_19_method_5_code 0 = .ok (.aload_n 0, 1) := by decide +kernel
theorem d29_1 : decode prog_19_method_5_code 1 = .ok (.getfield 13, 3) := by decide +kernel
theorem pd___Z : parseMethodDescriptor "()Z" = some ⟨[], some .boolean⟩ := by decide +kernel
theorem d29_4 : decode prog_19_method_5_code 4 = .ok (.invokevirtual 45, 3) := by decide +kernel
theorem d29_7 : decode prog_19_method_5_code 7 = .ok (.ireturn, 1) := by decide +kernel
theorem ef29 (m : MethodId) (x0 : Addr) : entryFrame m #[(.ref x0)] 1 = mkF m 0 #[.val (.ref x0)] [] := by first | (simp [entryFrame, mkF, argsToLocals, Value.category]; done) | rfl
def Q29 (Z : State) (r0 : Addr) (us : Int64) (un : Int32) (vd : Addr) (h0 : Heap) (n0 : Nat) (v : Option Value) (h : Heap) (L : List Loc) : Prop := v = some (.int (nar .boolean (f_iz us un))) ∧ Fr n0 L ∧ h = h0
set_option maxRecDepth 65536 in
set_option maxHeartbeats 40000000 in
theorem rm29 (l : Launch) (Z : State) (a0 : Array Value) (hw : ∀ d ∈ tables_1, d.before a0 Z = true) (ws : List Jvm.Cond) (r0 : Addr) (us : Int64) (un : Int32) (vd : Addr) (h0 : Heap) (n0 : Nat) (Z0 : n0 ≤ h0.size) (F0 : Fld Z h0 r0 "com/example/even_bucket/evenbucket/Decision" "retryAfter" "Ljava/time/Duration;" (.ref vd)) (E1 : Exa Z h0 vd "java/time/Duration") (G0 : Fld Z h0 vd "java/time/Duration" "seconds" "J" (.long us)) (G1 : Fld Z h0 vd "java/time/Duration" "nanos" "I" (.int un)) :
    MetFree l (⟨"com/example/even_bucket/evenbucket/Decision", "allowed", "()Z"⟩ : MethodName) (head1 (Jvm.Cond.code (⟨"com/example/even_bucket/evenbucket/Decision", "allowed", "()Z"⟩ : MethodName) prog_19_method_5_code 1 (some .boolean) :: ws) ({ frames := 1, cells := 0, slots := 0, locals := 12 } : Room)) (fun a U => a = #[(.ref r0)] ∧ Z.Warmed39 U.vm ∧ U.heap = h0) (fun _ _ _ _ _ => True) (fun _ U o U' => ∃ v L, o = .returned v ∧ Q29 Z r0 us un vd h0 n0 v U'.heap L ∧ FrameEnd U o U' L ({ frames := 1, cells := 0, slots := 0, locals := 12 } : Room).cells ({ frames := 1, cells := 0, slots := 0, locals := 12 } : Room).slots) := by
  refine MetFree.of_bodySF (plainFor_of_name pn_Decision) hisR ?_
  intro p e s m args below meth c s₁ Bd hml0 hP hK
  obtain ⟨rfl, hZ, hh⟩ := hP
  have hx := Bd.exec
  have hby := Bd.bytes
  have hml : c.maxLocals = 1 := hml0
  have hown : s.vm.findClass "com/example/even_bucket/evenbucket/Decision" = some m.cls := findClass_of_methodNamed Bd.named
  have hnm := (name_of_methodNamed Bd.named Bd.method).1
  have X0 : Stand p l e ({ frames := 1, cells := 0, slots := 0, locals := 12 } : Room) s m #[(.ref r0)] below meth c s₁ [] 0 0 := Stand.of_body Bd
  have e0 : s₁.heap = h0 := by rw [← hh, Bd.state]; rfl
  have N0 := Fr.nil n0
  have pre0 : ∀ t, Steps p.tables e below (s₁.setTop (mkF m 0 #[.val (.ref r0)] [])) t → Steps p.tables e below (s₁.setTop (entryFrame m #[(.ref r0)] 1)) t := fun t k => castTop (ef29 m r0) k
  obtain ⟨T341, X341, e341, st341⟩ := getF X0 hx hZ hown (host := "") (Or.inl (hw _ (List.mem_of_getElem? (i := 74) rfl))) Via.refl e0 F0 (g := (mkF m 1 #[.val (.ref r0)] [(.ref r0)])) rfl rfl (hb hby d29_1)
  obtain ⟨cq342, kq342, q342a, q342b, q342c⟩ := isOf hZ e341 E1
  obtain ⟨_, _, ⟨T342, L342, k342, n342⟩, -, X342, ⟨Lc342, hQ342, l342, y342, z342⟩, st342⟩ := X341.virtualBack hx (y := (⟨"java/time/Duration", "isZero", "()Z"⟩ : MethodName)) (z := (⟨"java/time/Duration", "isZero", "()Z"⟩ : MethodName)) hown (mvT hZ (hw _ (List.mem_of_getElem? (i := 179) rfl))) (mvT hZ (hw _ (List.mem_of_getElem? (i := 180) rfl))) (notFace_of_selects (args := #[]) (mvT hZ (hw _ (List.mem_of_getElem? (i := 182) rfl)))) (mvT hZ (hw _ (List.mem_of_getElem? (i := 182) rfl))) (mvT hZ (hw _ (List.mem_of_getElem? (i := 181) rfl))) (by decide) (backOf (W := 0) (rm30 l Z a0 hw [] vd us un h0 n0 Z0 G0 G1) hZ (hw _ (List.mem_of_getElem? (i := 183) rfl)) (hw _ (List.mem_of_getElem? (i := 67) rfl)) (by decide) (by decide)) q342a q342c (g := (mkF m 4 #[.val (.ref r0)] [(.ref vd)])) rfl (by rw [hml]; rfl) (Steps.refl _) (argsL := []) (rest := []) (lenOf pd___Z rfl) rfl (by show 2 * 0 + _ ≤ _; exact Nat.le_of_eq rfl) (hb hby d29_4) (fun _ _ => ⟨rfl, e341, (by decide : 0 + 0 ≤ _), (by decide : 0 + 0 ≤ _)⟩)
  dsimp only [Pt.U, Pt.locs, Pt.cells, Pt.slots] at X342 l342 y342 z342 st342 hQ342
  subst l342 y342 z342
  obtain ⟨rfl, Nq342, e342⟩ := hQ342
  have N342 := Fr.app N0 Nq342
  obtain ⟨fs, hrT, hrunT, hendT, hWT, hsameT⟩ := X342.leave (hlocks := BodyLoose.notSynchronized Bd) (v := some (.int (nar .boolean (f_iz us un)))) (fun h => by rw [Bd.returns] at h; cases h)
  refine ⟨_, _, pre0 _ ?_, hrunT, hendT, _, _, rfl, ?_, ⟨_, rfl⟩, hWT, hsameT.mono (by decide) (by decide)⟩
  · show Steps p.tables e below (s₁.setTop (mkF m 0 #[.val (.ref r0)] [])) _
    refine XS.aloadN X0.here hx rfl (hb hby d29_0) rfl rfl ?_
    show Steps p.tables e below (s₁.setTop (mkF m 1 #[.val (.ref r0)] [(.ref r0)])) _
    refine st341 _ ?_
    show Steps p.tables e below (T341.setTop (mkF m 4 #[.val (.ref r0)] [(.ref vd)])) _
    refine st342.trans ?_
    show Steps p.tables e below (T342.setTop (mkF m 7 #[.val (.ref r0)] [(.int (f_iz us un))])) _
    exact retN X342 hx (t := .boolean) Bd.returns (by simp) (hb hby d29_7) hrT
  · show Q29 Z r0 us un vd h0 n0 _ T342.heap _
    rw [e342]
    exact ⟨rfl, N342, rfl⟩
theorem d31_0 : decode prog_19_method_6_code 0 = .ok (.aload_n 0, 1) := by decide +kernel
theorem d31_1 : decode prog_19_method_6_code 1 = .ok (.getfield 7, 3) := by decide +kernel
theorem d31_4 : decode prog_19_method_6_code 4 = .ok (.lreturn, 1) := by decide +kernel
theorem ef31 (m : MethodId) (x0 : Addr) : entryFrame m #[(.ref x0)] 1 = mkF m 0 #[.val (.ref x0)] [] := by first | (simp [entryFrame, mkF, argsToLocals, Value.category]; done) | rfl
def Q31 (Z : State) (r0 : Addr) (u : Int64) (h0 : Heap) (n0 : Nat) (v : Option Value) (h : Heap) (L : List Loc) : Prop := v = some (.long u) ∧ Fr n0 L ∧ h = h0
set_option maxRecDepth 65536 in
set_option maxHeartbeats 40000000 in
theorem rm31 (l : Launch) (Z : State) (a0 : Array Value) (hw : ∀ d ∈ tables_1, d.before a0 Z = true) (ws : List Jvm.Cond) (r0 : Addr) (u : Int64) (h0 : Heap) (n0 : Nat) (Z0 : n0 ≤ h0.size) (F : Fld Z h0 r0 "com/example/even_bucket/evenbucket/Decision" "remaining" "J" (.long u)) :
    MetFree l (⟨"com/example/even_bucket/evenbucket/Decision", "remaining", "()J"⟩ : MethodName) (head1 (Jvm.Cond.code (⟨"com/example/even_bucket/evenbucket/Decision", "remaining", "()J"⟩ : MethodName) prog_19_method_6_code 1 (some .long) :: ws) ({ frames := 0, cells := 0, slots := 0, locals := 0 } : Room)) (fun a U => a = #[(.ref r0)] ∧ Z.Warmed39 U.vm ∧ U.heap = h0) (fun _ _ _ _ _ => True) (fun _ U o U' => ∃ v L, o = .returned v ∧ Q31 Z r0 u h0 n0 v U'.heap L ∧ FrameEnd U o U' L ({ frames := 0, cells := 0, slots := 0, locals := 0 } : Room).cells ({ frames := 0, cells := 0, slots := 0, locals := 0 } : Room).slots) := by
  refine MetFree.of_bodySF (plainFor_of_name pn_Decision) hisR ?_
  intro p e s m args below meth c s₁ Bd hml0 hP hK
  obtain ⟨rfl, hZ, hh⟩ := hP
  have hx := Bd.exec
  have hby := Bd.bytes
  have hml : c.maxLocals = 1 := hml0
  have hown : s.vm.findClass "com/example/even_bucket/evenbucket/Decision" = some m.cls := findClass_of_methodNamed Bd.named
  have hnm := (name_of_methodNamed Bd.named Bd.method).1
  have X0 : Stand p l e ({ frames := 0, cells := 0, slots := 0, locals := 0 } : Room) s m #[(.ref r0)] below meth c s₁ [] 0 0 := Stand.of_body Bd
  have e0 : s₁.heap = h0 := by rw [← hh, Bd.state]; rfl
  have N0 := Fr.nil n0
  have pre0 : ∀ t, Steps p.tables e below (s₁.setTop (mkF m 0 #[.val (.ref r0)] [])) t → Steps p.tables e below (s₁.setTop (entryFrame m #[(.ref r0)] 1)) t := fun t k => castTop (ef31 m r0) k
  obtain ⟨T343, X343, e343, st343⟩ := getF X0 hx hZ hown (host := "") (Or.inl (hw _ (List.mem_of_getElem? (i := 72) rfl))) Via.refl e0 F (g := (mkF m 1 #[.val (.ref r0)] [(.ref r0)])) rfl rfl (hb hby d31_1)
  obtain ⟨fs, hrT, hrunT, hendT, hWT, hsameT⟩ := X343.leave (hlocks := BodyLoose.notSynchronized Bd) (v := some (.long u)) (fun h => by rw [Bd.returns] at h; cases h)
  refine ⟨_, _, pre0 _ ?_, hrunT, hendT, _, _, rfl, ?_, ⟨_, rfl⟩, hWT, hsameT.mono (by decide) (by decide)⟩
  · show Steps p.tables e below (s₁.setTop (mkF m 0 #[.val (.ref r0)] [])) _
    refine XS.aloadN X0.here hx rfl (hb hby d31_0) rfl rfl ?_
    show Steps p.tables e below (s₁.setTop (mkF m 1 #[.val (.ref r0)] [(.ref r0)])) _
    refine st343 _ ?_
    show Steps p.tables e below (T343.setTop (mkF m 4 #[.val (.ref r0)] [(.long u)])) _
    exact retOut X343 hx Bd.returns rfl (by right; left; exact ⟨rfl, rfl, _, rfl⟩) (hb hby d31_4) hrT
  · show Q31 Z r0 u h0 n0 _ T343.heap _
    rw [e343]
    exact ⟨rfl, N0, rfl⟩
theorem own_cc {p cc : Int32} (h : cc = (f_max (1 : Int32) (p &&& (2147483647 : Int32)))) : 1 ≤ cc.toInt := by
  subst h
  unfold f_max
  split
  · rename_i q; rw [Int32.lt_iff_toInt_lt, show (1 : Int32).toInt = 1 from rfl] at q; omega
  · decide
theorem own_pe {p pe : Int64} (h : pe = (f_maxL (1 : Int64) (p &&& (9223372036854775807 : Int64)))) : 1 ≤ pe.toInt := by
  subst h
  unfold f_maxL
  split
  · rename_i q; rw [Int64.lt_iff_toInt_lt, show (1 : Int64).toInt = 1 from rfl] at q; omega
  · decide
theorem own_k {x y k : Int32} (hy : 1 ≤ y.toInt) (h : k = ((x &&& (2147483647 : Int32)) % y)) : 0 ≤ k.toInt ∧ k.toInt < y.toInt := by
  have e1 : (x &&& (2147483647 : Int32)).toInt = x.toInt % 2 ^ 31 := Jvm.Kit.i32_mask x (2147483647 : Int32) (k := 31) (by decide) (by decide)
  rw [h, Jvm.Kit.i32_rem_nonneg (by omega)]
  exact ⟨Int.emod_nonneg _ (by omega), Int.emod_lt_of_pos _ (by omega)⟩
theorem own_sub {x y : Int32} (h1 : 0 ≤ y.toInt) (h2 : y.toInt < x.toInt) : (x - y).toInt = x.toInt - y.toInt := by
  have := x.toInt_lt
  exact Jvm.Kit.i32_sub (by omega) (by omega)
theorem own_tf {cc rr : Int32} {x : Int64} (hr : 1 ≤ rr.toInt) (hx : 0 ≤ x.toInt ∧ x.toInt ≤ cc.toInt) : (((((cc.toInt64) - x) + (rr.toInt64)) - (1 : Int64)) / (rr.toInt64)).toInt = (cc.toInt - x.toInt + (rr.toInt - 1)) / rr.toInt := by
  have o : (1 : Int64).toInt = 1 := rfl
  have c := Jvm.Kit.i64_of_i32 cc
  have r := Jvm.Kit.i64_of_i32 rr
  have b1 := cc.toInt_lt; have b2 := rr.toInt_lt
  have e1 : ((cc.toInt64) - x).toInt = cc.toInt - x.toInt := by rw [Jvm.Kit.i64_sub (by omega) (by omega), c]
  have e2 : (((cc.toInt64) - x) + (rr.toInt64)).toInt = cc.toInt - x.toInt + rr.toInt := by rw [Jvm.Kit.i64_add (by omega) (by omega), e1, r]
  have e3 : ((((cc.toInt64) - x) + (rr.toInt64)) - (1 : Int64)).toInt = cc.toInt - x.toInt + (rr.toInt - 1) := by rw [Jvm.Kit.i64_sub (by omega) (by omega), e2, o]; omega
  rw [Jvm.Kit.i64_div (by omega), e3, r, Int.tdiv_eq_ediv_of_nonneg (by omega)]
theorem own_A {cc rr : Int32} (hc : 1 ≤ cc.toInt) (hr : 1 ≤ rr.toInt) : f_pa cc (cc.toInt64) rr = (cc.toInt64) := by
  have c := Jvm.Kit.i64_of_i32 cc
  have e := own_tf (cc := cc) (rr := rr) (x := cc.toInt64) hr ⟨by omega, by omega⟩
  have z : (((((cc.toInt64) - (cc.toInt64)) + (rr.toInt64)) - (1 : Int64)) / (rr.toInt64)) = 0 := by
    rw [← Int64.toInt_inj, e, c, show (0 : Int64).toInt = 0 from rfl]
    exact Int.ediv_eq_zero_of_lt (by omega) (by omega)
  unfold f_pa
  rw [z, if_neg (by decide)]
theorem own_B {cc rr : Int32} {x : Int64} (hr : 1 ≤ rr.toInt) (hx : 0 ≤ x.toInt ∧ x.toInt < cc.toInt) : f_pa cc x rr = x := by
  have e := own_tf (cc := cc) (rr := rr) (x := x) hr ⟨by omega, by omega⟩
  have b1 := cc.toInt_lt
  have g1 : 1 ≤ (cc.toInt - x.toInt + (rr.toInt - 1)) / rr.toInt := Int.le_ediv_of_mul_le (by omega) (by omega)
  have g2 : (cc.toInt - x.toInt + (rr.toInt - 1)) / rr.toInt ≤ cc.toInt - x.toInt + (rr.toInt - 1) := Int.ediv_le_self _ (by omega)
  have b2 := rr.toInt_lt
  unfold f_pa
  generalize (((((cc.toInt64) - x) + (rr.toInt64)) - (1 : Int64)) / (rr.toInt64)) = tf at *
  have mn : (-9223372036854775808 : Int64).toInt = -9223372036854775808 := by decide
  have k : (tf + (-9223372036854775808 : Int64)).toInt = tf.toInt - 9223372036854775808 := by rw [Jvm.Kit.i64_add (by omega) (by omega), mn]; omega
  have zz : (((0 : Int64) - (0 : Int64)) + (-9223372036854775808 : Int64)).toInt = -9223372036854775808 := by decide
  have q : f_cmp (((0 : Int64) - (0 : Int64)) + (-9223372036854775808 : Int64)) (tf + (-9223372036854775808 : Int64)) < 0 := by
    unfold f_cmp
    rw [if_pos (by rw [Int64.lt_iff_toInt_lt]; omega)]
    decide
  rw [if_pos q, Int64.sub_self, Int64.zero_mul, Int64.add_zero]
theorem own_x0 {cc : Int32} (hc : 1 ≤ cc.toInt) : ((cc.toInt64) - (1 : Int64)).toInt = cc.toInt - 1 := by
  have o : (1 : Int64).toInt = 1 := rfl
  have c := Jvm.Kit.i64_of_i32 cc
  have b1 := cc.toInt_lt
  rw [Jvm.Kit.i64_sub (by omega) (by omega), c, o]
theorem own_xs {x : Int64} {k : Int32} (h1 : 0 ≤ k.toInt) (h2 : k.toInt ≤ x.toInt) : (x - (k.toInt64)).toInt = x.toInt - k.toInt := by
  have b := x.toInt_lt
  rw [Jvm.Kit.i64_sub (by rw [Jvm.Kit.i64_of_i32]; omega) (by rw [Jvm.Kit.i64_of_i32]; omega), Jvm.Kit.i64_of_i32]
theorem own_lt {x : Int64} (h : 0 ≤ x.toInt) : ¬ x < (0 : Int64) := by rw [Int64.lt_iff_toInt_lt, show (0 : Int64).toInt = 0 from rfl]; omega
theorem own_nzx {x : Int64} (h : 1 ≤ x.toInt) : ¬ x = (0 : Int64) := (own_nn h).2
theorem own_i {x : Int64} {y : Int32} (h : x.toInt = y.toInt) : (x.toInt32) = y := by
  rw [← Int32.toInt_inj, Jvm.Kit.i32_of_i64 (by have := y.le_toInt; omega) (by have := y.toInt_lt; omega), h]
theorem own_r1 {cc k1 : Int32} (hc : 1 ≤ cc.toInt) (h1 : 0 ≤ k1.toInt) (h2 : k1.toInt < cc.toInt) : ((cc - (1 : Int32)) - k1).toInt = cc.toInt - 1 - k1.toInt := by
  have o : (1 : Int32).toInt = 1 := rfl
  have := cc.toInt_lt
  have e1 : (cc - (1 : Int32)).toInt = cc.toInt - 1 := by rw [Jvm.Kit.i32_sub (by omega) (by omega), o]
  rw [Jvm.Kit.i32_sub (by omega) (by omega), e1]
theorem pd__II_I : parseMethodDescriptor "(II)I" = some ⟨[.int, .int], some .int⟩ := by decide +kernel
theorem pd__IIJ_V : parseMethodDescriptor "(IIJ)V" = some ⟨[.int, .int, .long], none⟩ := by decide +kernel
theorem pd__I_V : parseMethodDescriptor "(I)V" = some ⟨[.int], none⟩ := by decide +kernel
theorem pd___Lcom_example_even_bucket_evenbucket_Admissions_Moment_ : parseMethodDescriptor "()Lcom/example/even_bucket/evenbucket/Admissions$Moment;" = some ⟨[], some (.object "com/example/even_bucket/evenbucket/Admissions$Moment")⟩ := by decide +kernel
theorem pd___J : parseMethodDescriptor "()J" = some ⟨[], some .long⟩ := by decide +kernel
theorem pn_IntervalBucketRecordAtLatestDecisionPinLaw : plainName "com/example/even_bucket/evenbucket/IntervalBucketRecordAtLatestDecisionPinLaw" = true := by first | (simp [plainName, overriddenIn]; done) | decide +kernel
theorem ef0 (m : MethodId) (x0 : Int32) (x1 : Int32) (x2 : Int64) (x3 : Int64) (x4 : Int32) (x5 : Int32) : entryFrame m #[(.int x0), (.int x1), (.long x2), (.long x3), (.int x4), (.int x5)] maxLocals = mkF m 0 #[.val (.int x0), .val (.int x1), .val (.long x2), .second, .val (.long x3), .second, .val (.int x4), .val (.int x5), .unset, .unset, .unset, .unset, .unset, .unset, .unset, .unset, .unset, .unset, .unset] [] := by first | (simp [entryFrame, mkF, argsToLocals, Value.category, maxLocals]; done) | rfl
def Q0 (Z : State) (p0 : Int32) (p1 : Int32) (q2 : Int64) (q3 : Int64) (p4 : Int32) (p5 : Int32) (vz : Addr) (h0 : Heap) (n0 : Nat) (v : Option Value) (h : Heap) (L : List Loc) : Prop := v = some (.int (1 : Int32)) ∧ Fr n0 L
set_option maxRecDepth 65536 in
set_option maxHeartbeats 40000000 in
theorem rm0 (l : Launch) (Z : State) (a0 : Array Value) (hw : ∀ d ∈ tables_1, d.before a0 Z = true) (ws : List Jvm.Cond) (p0 : Int32) (p1 : Int32) (q2 : Int64) (q3 : Int64) (p4 : Int32) (p5 : Int32) (vz : Addr) (h0 : Heap) (n0 : Nat) (Z0 : n0 ≤ h0.size) (Sz : Sta Z h0 "java/time/Duration" "ZERO" "Ljava/time/Duration;" (.ref vz)) (Ez : Exa Z h0 vz "java/time/Duration") (Fz0 : Fld Z h0 vz "java/time/Duration" "seconds" "J" (.long (0 : Int64))) (Fz1 : Fld Z h0 vz "java/time/Duration" "nanos" "I" (.int (0 : Int32))) :
    MetFree l x (head1 (Jvm.Cond.code x code maxLocals ret :: ws) room_1) (fun a U => a = #[(.int p0), (.int p1), (.long q2), (.long q3), (.int p4), (.int p5)] ∧ Z.Warmed39 U.vm ∧ U.heap = h0) (fun _ _ _ _ _ => True) (fun _ U o U' => ∃ v L, o = .returned v ∧ Q0 Z p0 p1 q2 q3 p4 p5 vz h0 n0 v U'.heap L ∧ ReturnedEndW U o U' L room_1.cells room_1.slots) := by
  refine MetFree.of_bodySF (plainFor_of_name pn_IntervalBucketRecordAtLatestDecisionPinLaw) hisR ?_
  intro p e s m args below meth c s₁ Bd hml0 hP hK
  obtain ⟨rfl, hZ, hh⟩ := hP
  have hx := Bd.exec
  have hby := Bd.bytes
  have hml : c.maxLocals = 19 := hml0
  have hown : s.vm.findClass "com/example/even_bucket/evenbucket/IntervalBucketRecordAtLatestDecisionPinLaw" = some m.cls := findClass_of_methodNamed Bd.named
  have hnm := (name_of_methodNamed Bd.named Bd.method).1
  have X0 : Stand p l e room_1 s m #[(.int p0), (.int p1), (.long q2), (.long q3), (.int p4), (.int p5)] below meth c s₁ [] 0 0 := Stand.of_body Bd
  have e0 : s₁.heap = h0 := by rw [← hh, Bd.state]; rfl
  have N0 := Fr.nil n0
  have pre0 : ∀ t, Steps p.tables e below (s₁.setTop (mkF m 0 #[.val (.int p0), .val (.int p1), .val (.long q2), .second, .val (.long q3), .second, .val (.int p4), .val (.int p5), .unset, .unset, .unset, .unset, .unset, .unset, .unset, .unset, .unset, .unset, .unset] [])) t → Steps p.tables e below (s₁.setTop (entryFrame m #[(.int p0), (.int p1), (.long q2), (.long q3), (.int p4), (.int p5)] maxLocals)) t := fun t k => castTop (ef0 m p0 p1 q2 q3 p4 p5) k
  obtain ⟨_, _, ⟨T344, L344, k344, n344⟩, -, X344, ⟨Lc344, hQ344, l344, y344, z344⟩, st344⟩ := Jvm.LawKit.callS X0 hx (y := (⟨"java/lang/Math", "max", "(II)I"⟩ : MethodName)) hown (mvT hZ (hw _ (List.mem_of_getElem? (i := 1) rfl))) (mvT hZ (hw _ (List.mem_of_getElem? (i := 2) rfl))) (mvT hZ (hw _ (List.mem_of_getElem? (i := 3) rfl))) (mvT hZ (hw _ (List.mem_of_getElem? (i := 4) rfl))) (by decide) (backOf (W := 0) (rm1 l Z a0 hw [] (1 : Int32) (p0 &&& (2147483647 : Int32)) h0 n0 Z0 ) hZ (hw _ (List.mem_of_getElem? (i := 4) rfl)) (hw _ (List.mem_of_getElem? (i := 3) rfl)) (by decide) (by decide)) (g := (mkF m 5 #[.val (.int p0), .val (.int p1), .val (.long q2), .second, .val (.long q3), .second, .val (.int p4), .val (.int p5), .unset, .unset, .unset, .unset, .unset, .unset, .unset, .unset, .unset, .unset, .unset] [(.int (p0 &&& (2147483647 : Int32))), (.int (1 : Int32))])) rfl (by rw [hml]; rfl) (argsL := [(.int (1 : Int32)), (.int (p0 &&& (2147483647 : Int32)))]) (rest := []) (lenOf pd__II_I rfl) rfl (by show 2 * 0 + _ ≤ _; exact Nat.le_of_eq rfl) (hb hby at_5) (fun _ _ => ⟨rfl, e0, (by decide : 0 + 0 ≤ _), (by decide : 0 + 0 ≤ _)⟩)
  dsimp only [Pt.U, Pt.locs, Pt.cells, Pt.slots] at X344 l344 y344 z344 st344 hQ344
  subst l344 y344 z344
  obtain ⟨rfl, Nq344, e344⟩ := hQ344
  have N344 := Fr.app N0 Nq344
  have S345 : ∀ t, Steps p.tables e below (T344.setTop (mkF m 10 #[.val (.int p0), .val (.int p1), .val (.long q2), .second, .val (.long q3), .second, .val (.int p4), .val (.int p5), .val (.int (f_max (1 : Int32) (p0 &&& (2147483647 : Int32)))), .unset, .unset, .unset, .unset, .unset, .unset, .unset, .unset, .unset, .unset] [])) t → Steps p.tables e below (s₁.setTop (entryFrame m #[(.int p0), (.int p1), (.long q2), (.long q3), (.int p4), (.int p5)] maxLocals)) t := by
    intro t kt
    refine pre0 _ ?_
    show Steps p.tables e below (s₁.setTop (mkF m 0 #[.val (.int p0), .val (.int p1), .val (.long q2), .second, .val (.long q3), .second, .val (.int p4), .val (.int p5), .unset, .unset, .unset, .unset, .unset, .unset, .unset, .unset, .unset, .unset, .unset] [])) _
    refine XS.iconst X0.here hx rfl (hb hby at_0) ?_
    show Steps p.tables e below (s₁.setTop (mkF m 1 #[.val (.int p0), .val (.int p1), .val (.long q2), .second, .val (.long q3), .second, .val (.int p4), .val (.int p5), .unset, .unset, .unset, .unset, .unset, .unset, .unset, .unset, .unset, .unset, .unset] [(.int (1 : Int32))])) _
    refine XS.iloadN X0.here hx rfl (hb hby at_1) rfl ?_
    show Steps p.tables e below (s₁.setTop (mkF m 2 #[.val (.int p0), .val (.int p1), .val (.long q2), .second, .val (.long q3), .second, .val (.int p4), .val (.int p5), .unset, .unset, .unset, .unset, .unset, .unset, .unset, .unset, .unset, .unset, .unset] [(.int p0), (.int (1 : Int32))])) _
    refine X0.ldcInt hx hown (mvT hZ (hw _ (List.mem_of_getElem? (i := 0) rfl))) (g := (mkF m 2 #[.val (.int p0), .val (.int p1), .val (.long q2), .second, .val (.long q3), .second, .val (.int p4), .val (.int p5), .unset, .unset, .unset, .unset, .unset, .unset, .unset, .unset, .unset, .unset, .unset] [(.int p0), (.int (1 : Int32))])) rfl (hb hby at_2) _ ?_
    show Steps p.tables e below (s₁.setTop (mkF m 4 #[.val (.int p0), .val (.int p1), .val (.long q2), .second, .val (.long q3), .second, .val (.int p4), .val (.int p5), .unset, .unset, .unset, .unset, .unset, .unset, .unset, .unset, .unset, .unset, .unset] [(.int (2147483647 : Int32)), (.int p0), (.int (1 : Int32))])) _
    refine XS.iand X0.here hx rfl (hb hby at_4) rfl ?_
    show Steps p.tables e below (s₁.setTop (mkF m 5 #[.val (.int p0), .val (.int p1), .val (.long q2), .second, .val (.long q3), .second, .val (.int p4), .val (.int p5), .unset, .unset, .unset, .unset, .unset, .unset, .unset, .unset, .unset, .unset, .unset] [(.int (p0 &&& (2147483647 : Int32))), (.int (1 : Int32))])) _
    refine st344 _ ?_
    show Steps p.tables e below (T344.setTop (mkF m 8 #[.val (.int p0), .val (.int p1), .val (.long q2), .second, .val (.long q3), .second, .val (.int p4), .val (.int p5), .unset, .unset, .unset, .unset, .unset, .unset, .unset, .unset, .unset, .unset, .unset] [(.int (f_max (1 : Int32) (p0 &&& (2147483647 : Int32))))])) _
    refine XS.istore X344.here hx rfl (hb hby at_8) rfl (l' := #[.val (.int p0), .val (.int p1), .val (.long q2), .second, .val (.long q3), .second, .val (.int p4), .val (.int p5), .val (.int (f_max (1 : Int32) (p0 &&& (2147483647 : Int32)))), .unset, .unset, .unset, .unset, .unset, .unset, .unset, .unset, .unset, .unset]) rfl ?_
    exact kt
  obtain ⟨cc, hd_cc⟩ : ∃ z, z = (f_max (1 : Int32) (p0 &&& (2147483647 : Int32))) := ⟨_, rfl⟩
  rw [← hd_cc] at S345
  have hcc := own_cc hd_cc
  obtain ⟨_, _, ⟨T346, L346, k346, n346⟩, -, X346, ⟨Lc346, hQ346, l346, y346, z346⟩, st346⟩ := Jvm.LawKit.callS X344 hx (y := (⟨"java/lang/Math", "max", "(II)I"⟩ : MethodName)) hown (mvT hZ (hw _ (List.mem_of_getElem? (i := 1) rfl))) (mvT hZ (hw _ (List.mem_of_getElem? (i := 2) rfl))) (mvT hZ (hw _ (List.mem_of_getElem? (i := 3) rfl))) (mvT hZ (hw _ (List.mem_of_getElem? (i := 4) rfl))) (by decide) (backOf (W := 0) (rm1 l Z a0 hw [] (1 : Int32) (p1 &&& (2147483647 : Int32)) h0 n0 Z0 ) hZ (hw _ (List.mem_of_getElem? (i := 4) rfl)) (hw _ (List.mem_of_getElem? (i := 3) rfl)) (by decide) (by decide)) (g := (mkF m 15 #[.val (.int p0), .val (.int p1), .val (.long q2), .second, .val (.long q3), .second, .val (.int p4), .val (.int p5), .val (.int cc), .unset, .unset, .unset, .unset, .unset, .unset, .unset, .unset, .unset, .unset] [(.int (p1 &&& (2147483647 : Int32))), (.int (1 : Int32))])) rfl (by rw [hml]; rfl) (argsL := [(.int (1 : Int32)), (.int (p1 &&& (2147483647 : Int32)))]) (rest := []) (lenOf pd__II_I rfl) rfl (by show 2 * 0 + _ ≤ _; exact Nat.le_of_eq rfl) (hb hby at_15) (fun _ _ => ⟨rfl, e344, (by decide : 0 + 0 ≤ _), (by decide : 0 + 0 ≤ _)⟩)
  dsimp only [Pt.U, Pt.locs, Pt.cells, Pt.slots] at X346 l346 y346 z346 st346 hQ346
  subst l346 y346 z346
  obtain ⟨rfl, Nq346, e346⟩ := hQ346
  have N346 := Fr.app N344 Nq346
  have S347 : ∀ t, Steps p.tables e below (T346.setTop (mkF m 20 #[.val (.int p0), .val (.int p1), .val (.long q2), .second, .val (.long q3), .second, .val (.int p4), .val (.int p5), .val (.int cc), .val (.int (f_max (1 : Int32) (p1 &&& (2147483647 : Int32)))), .unset, .unset, .unset, .unset, .unset, .unset, .unset, .unset, .unset] [])) t → Steps p.tables e below (s₁.setTop (entryFrame m #[(.int p0), (.int p1), (.long q2), (.long q3), (.int p4), (.int p5)] maxLocals)) t := by
    intro t kt
    refine S345 _ ?_
    show Steps p.tables e below (T344.setTop (mkF m 10 #[.val (.int p0), .val (.int p1), .val (.long q2), .second, .val (.long q3), .second, .val (.int p4), .val (.int p5), .val (.int cc), .unset, .unset, .unset, .unset, .unset, .unset, .unset, .unset, .unset, .unset] [])) _
    refine XS.iconst X344.here hx rfl (hb hby at_10) ?_
    show Steps p.tables e below (T344.setTop (mkF m 11 #[.val (.int p0), .val (.int p1), .val (.long q2), .second, .val (.long q3), .second, .val (.int p4), .val (.int p5), .val (.int cc), .unset, .unset, .unset, .unset, .unset, .unset, .unset, .unset, .unset, .unset] [(.int (1 : Int32))])) _
    refine XS.iloadN X344.here hx rfl (hb hby at_11) rfl ?_
    show Steps p.tables e below (T344.setTop (mkF m 12 #[.val (.int p0), .val (.int p1), .val (.long q2), .second, .val (.long q3), .second, .val (.int p4), .val (.int p5), .val (.int cc), .unset, .unset, .unset, .unset, .unset, .unset, .unset, .unset, .unset, .unset] [(.int p1), (.int (1 : Int32))])) _
    refine X344.ldcInt hx hown (mvT hZ (hw _ (List.mem_of_getElem? (i := 0) rfl))) (g := (mkF m 12 #[.val (.int p0), .val (.int p1), .val (.long q2), .second, .val (.long q3), .second, .val (.int p4), .val (.int p5), .val (.int cc), .unset, .unset, .unset, .unset, .unset, .unset, .unset, .unset, .unset, .unset] [(.int p1), (.int (1 : Int32))])) rfl (hb hby at_12) _ ?_
    show Steps p.tables e below (T344.setTop (mkF m 14 #[.val (.int p0), .val (.int p1), .val (.long q2), .second, .val (.long q3), .second, .val (.int p4), .val (.int p5), .val (.int cc), .unset, .unset, .unset, .unset, .unset, .unset, .unset, .unset, .unset, .unset] [(.int (2147483647 : Int32)), (.int p1), (.int (1 : Int32))])) _
    refine XS.iand X344.here hx rfl (hb hby at_14) rfl ?_
    show Steps p.tables e below (T344.setTop (mkF m 15 #[.val (.int p0), .val (.int p1), .val (.long q2), .second, .val (.long q3), .second, .val (.int p4), .val (.int p5), .val (.int cc), .unset, .unset, .unset, .unset, .unset, .unset, .unset, .unset, .unset, .unset] [(.int (p1 &&& (2147483647 : Int32))), (.int (1 : Int32))])) _
    refine st346 _ ?_
    show Steps p.tables e below (T346.setTop (mkF m 18 #[.val (.int p0), .val (.int p1), .val (.long q2), .second, .val (.long q3), .second, .val (.int p4), .val (.int p5), .val (.int cc), .unset, .unset, .unset, .unset, .unset, .unset, .unset, .unset, .unset, .unset] [(.int (f_max (1 : Int32) (p1 &&& (2147483647 : Int32))))])) _
    refine XS.istore X346.here hx rfl (hb hby at_18) rfl (l' := #[.val (.int p0), .val (.int p1), .val (.long q2), .second, .val (.long q3), .second, .val (.int p4), .val (.int p5), .val (.int cc), .val (.int (f_max (1 : Int32) (p1 &&& (2147483647 : Int32)))), .unset, .unset, .unset, .unset, .unset, .unset, .unset, .unset, .unset]) rfl ?_
    exact kt
  obtain ⟨rr, hd_rr⟩ : ∃ z, z = (f_max (1 : Int32) (p1 &&& (2147483647 : Int32))) := ⟨_, rfl⟩
  rw [← hd_rr] at S347
  have hrr := own_cc hd_rr
  obtain ⟨_, _, ⟨T348, L348, k348, n348⟩, -, X348, ⟨Lc348, hQ348, l348, y348, z348⟩, st348⟩ := Jvm.LawKit.callS X346 hx (y := (⟨"java/lang/Math", "max", "(JJ)J"⟩ : MethodName)) hown (mvT hZ (hw _ (List.mem_of_getElem? (i := 6) rfl))) (mvT hZ (hw _ (List.mem_of_getElem? (i := 7) rfl))) (mvT hZ (hw _ (List.mem_of_getElem? (i := 3) rfl))) (mvT hZ (hw _ (List.mem_of_getElem? (i := 8) rfl))) (by decide) (backOf (W := 0) (rm2 l Z a0 hw [] (1 : Int64) (q2 &&& (9223372036854775807 : Int64)) h0 n0 Z0 ) hZ (hw _ (List.mem_of_getElem? (i := 8) rfl)) (hw _ (List.mem_of_getElem? (i := 3) rfl)) (by decide) (by decide)) (g := (mkF m 26 #[.val (.int p0), .val (.int p1), .val (.long q2), .second, .val (.long q3), .second, .val (.int p4), .val (.int p5), .val (.int cc), .val (.int rr), .unset, .unset, .unset, .unset, .unset, .unset, .unset, .unset, .unset] [(.long (q2 &&& (9223372036854775807 : Int64))), (.long (1 : Int64))])) rfl (by rw [hml]; rfl) (argsL := [(.long (1 : Int64)), (.long (q2 &&& (9223372036854775807 : Int64)))]) (rest := []) (lenOf pd__JJ_J rfl) rfl (by show 2 * 0 + _ ≤ _; exact Nat.le_of_eq rfl) (hb hby at_26) (fun _ _ => ⟨rfl, e346, (by decide : 0 + 0 ≤ _), (by decide : 0 + 0 ≤ _)⟩)
  dsimp only [Pt.U, Pt.locs, Pt.cells, Pt.slots] at X348 l348 y348 z348 st348 hQ348
  subst l348 y348 z348
  obtain ⟨rfl, Nq348, e348⟩ := hQ348
  have N348 := Fr.app N346 Nq348
  have S349 : ∀ t, Steps p.tables e below (T348.setTop (mkF m 31 #[.val (.int p0), .val (.int p1), .val (.long q2), .second, .val (.long q3), .second, .val (.int p4), .val (.int p5), .val (.int cc), .val (.int rr), .val (.long (f_maxL (1 : Int64) (q2 &&& (9223372036854775807 : Int64)))), .second, .unset, .unset, .unset, .unset, .unset, .unset, .unset] [])) t → Steps p.tables e below (s₁.setTop (entryFrame m #[(.int p0), (.int p1), (.long q2), (.long q3), (.int p4), (.int p5)] maxLocals)) t := by
    intro t kt
    refine S347 _ ?_
    show Steps p.tables e below (T346.setTop (mkF m 20 #[.val (.int p0), .val (.int p1), .val (.long q2), .second, .val (.long q3), .second, .val (.int p4), .val (.int p5), .val (.int cc), .val (.int rr), .unset, .unset, .unset, .unset, .unset, .unset, .unset, .unset, .unset] [])) _
    refine XS.lconst X346.here hx rfl (hb hby at_20) ?_
    show Steps p.tables e below (T346.setTop (mkF m 21 #[.val (.int p0), .val (.int p1), .val (.long q2), .second, .val (.long q3), .second, .val (.int p4), .val (.int p5), .val (.int cc), .val (.int rr), .unset, .unset, .unset, .unset, .unset, .unset, .unset, .unset, .unset] [(.long (1 : Int64))])) _
    refine XS.lloadN X346.here hx rfl (hb hby at_21) rfl ?_
    show Steps p.tables e below (T346.setTop (mkF m 22 #[.val (.int p0), .val (.int p1), .val (.long q2), .second, .val (.long q3), .second, .val (.int p4), .val (.int p5), .val (.int cc), .val (.int rr), .unset, .unset, .unset, .unset, .unset, .unset, .unset, .unset, .unset] [(.long q2), (.long (1 : Int64))])) _
    refine X346.ldc2Long hx hown (mvT hZ (hw _ (List.mem_of_getElem? (i := 5) rfl))) (g := (mkF m 22 #[.val (.int p0), .val (.int p1), .val (.long q2), .second, .val (.long q3), .second, .val (.int p4), .val (.int p5), .val (.int cc), .val (.int rr), .unset, .unset, .unset, .unset, .unset, .unset, .unset, .unset, .unset] [(.long q2), (.long (1 : Int64))])) rfl (hb hby at_22) _ ?_
    show Steps p.tables e below (T346.setTop (mkF m 25 #[.val (.int p0), .val (.int p1), .val (.long q2), .second, .val (.long q3), .second, .val (.int p4), .val (.int p5), .val (.int cc), .val (.int rr), .unset, .unset, .unset, .unset, .unset, .unset, .unset, .unset, .unset] [(.long (9223372036854775807 : Int64)), (.long q2), (.long (1 : Int64))])) _
    refine XS.land X346.here hx rfl (hb hby at_25) rfl ?_
    show Steps p.tables e below (T346.setTop (mkF m 26 #[.val (.int p0), .val (.int p1), .val (.long q2), .second, .val (.long q3), .second, .val (.int p4), .val (.int p5), .val (.int cc), .val (.int rr), .unset, .unset, .unset, .unset, .unset, .unset, .unset, .unset, .unset] [(.long (q2 &&& (9223372036854775807 : Int64))), (.long (1 : Int64))])) _
    refine st348 _ ?_
    show Steps p.tables e below (T348.setTop (mkF m 29 #[.val (.int p0), .val (.int p1), .val (.long q2), .second, .val (.long q3), .second, .val (.int p4), .val (.int p5), .val (.int cc), .val (.int rr), .unset, .unset, .unset, .unset, .unset, .unset, .unset, .unset, .unset] [(.long (f_maxL (1 : Int64) (q2 &&& (9223372036854775807 : Int64))))])) _
    refine XS.lstore X348.here hx rfl (hb hby at_29) rfl (l' := #[.val (.int p0), .val (.int p1), .val (.long q2), .second, .val (.long q3), .second, .val (.int p4), .val (.int p5), .val (.int cc), .val (.int rr), .val (.long (f_maxL (1 : Int64) (q2 &&& (9223372036854775807 : Int64)))), .second, .unset, .unset, .unset, .unset, .unset, .unset, .unset]) rfl ?_
    exact kt
  obtain ⟨pe, hd_pe⟩ : ∃ z, z = (f_maxL (1 : Int64) (q2 &&& (9223372036854775807 : Int64))) := ⟨_, rfl⟩
  rw [← hd_pe] at S349
  have hpe := own_pe hd_pe
  have S350 : ∀ t, Steps p.tables e below (T348.setTop (mkF m 41 #[.val (.int p0), .val (.int p1), .val (.long q2), .second, .val (.long q3), .second, .val (.int p4), .val (.int p5), .val (.int cc), .val (.int rr), .val (.long pe), .second, .val (.int ((p4 &&& (2147483647 : Int32)) % cc)), .unset, .unset, .unset, .unset, .unset, .unset] [])) t → Steps p.tables e below (s₁.setTop (entryFrame m #[(.int p0), (.int p1), (.long q2), (.long q3), (.int p4), (.int p5)] maxLocals)) t := by
    intro t kt
    refine S349 _ ?_
    show Steps p.tables e below (T348.setTop (mkF m 31 #[.val (.int p0), .val (.int p1), .val (.long q2), .second, .val (.long q3), .second, .val (.int p4), .val (.int p5), .val (.int cc), .val (.int rr), .val (.long pe), .second, .unset, .unset, .unset, .unset, .unset, .unset, .unset] [])) _
    refine XS.iload X348.here hx rfl (hb hby at_31) rfl ?_
    show Steps p.tables e below (T348.setTop (mkF m 33 #[.val (.int p0), .val (.int p1), .val (.long q2), .second, .val (.long q3), .second, .val (.int p4), .val (.int p5), .val (.int cc), .val (.int rr), .val (.long pe), .second, .unset, .unset, .unset, .unset, .unset, .unset, .unset] [(.int p4)])) _
    refine X348.ldcInt hx hown (mvT hZ (hw _ (List.mem_of_getElem? (i := 0) rfl))) (g := (mkF m 33 #[.val (.int p0), .val (.int p1), .val (.long q2), .second, .val (.long q3), .second, .val (.int p4), .val (.int p5), .val (.int cc), .val (.int rr), .val (.long pe), .second, .unset, .unset, .unset, .unset, .unset, .unset, .unset] [(.int p4)])) rfl (hb hby at_33) _ ?_
    show Steps p.tables e below (T348.setTop (mkF m 35 #[.val (.int p0), .val (.int p1), .val (.long q2), .second, .val (.long q3), .second, .val (.int p4), .val (.int p5), .val (.int cc), .val (.int rr), .val (.long pe), .second, .unset, .unset, .unset, .unset, .unset, .unset, .unset] [(.int (2147483647 : Int32)), (.int p4)])) _
    refine XS.iand X348.here hx rfl (hb hby at_35) rfl ?_
    show Steps p.tables e below (T348.setTop (mkF m 36 #[.val (.int p0), .val (.int p1), .val (.long q2), .second, .val (.long q3), .second, .val (.int p4), .val (.int p5), .val (.int cc), .val (.int rr), .val (.long pe), .second, .unset, .unset, .unset, .unset, .unset, .unset, .unset] [(.int (p4 &&& (2147483647 : Int32)))])) _
    refine XS.iload X348.here hx rfl (hb hby at_36) rfl ?_
    show Steps p.tables e below (T348.setTop (mkF m 38 #[.val (.int p0), .val (.int p1), .val (.long q2), .second, .val (.long q3), .second, .val (.int p4), .val (.int p5), .val (.int cc), .val (.int rr), .val (.long pe), .second, .unset, .unset, .unset, .unset, .unset, .unset, .unset] [(.int cc), (.int (p4 &&& (2147483647 : Int32)))])) _
    refine iremM X348 hx rfl (hb hby at_38) rfl (own_ne hcc) ?_
    show Steps p.tables e below (T348.setTop (mkF m 39 #[.val (.int p0), .val (.int p1), .val (.long q2), .second, .val (.long q3), .second, .val (.int p4), .val (.int p5), .val (.int cc), .val (.int rr), .val (.long pe), .second, .unset, .unset, .unset, .unset, .unset, .unset, .unset] [(.int ((p4 &&& (2147483647 : Int32)) % cc))])) _
    refine XS.istore X348.here hx rfl (hb hby at_39) rfl (l' := #[.val (.int p0), .val (.int p1), .val (.long q2), .second, .val (.long q3), .second, .val (.int p4), .val (.int p5), .val (.int cc), .val (.int rr), .val (.long pe), .second, .val (.int ((p4 &&& (2147483647 : Int32)) % cc)), .unset, .unset, .unset, .unset, .unset, .unset]) rfl ?_
    exact kt
  obtain ⟨k1, hd_k1⟩ : ∃ z, z = ((p4 &&& (2147483647 : Int32)) % cc) := ⟨_, rfl⟩
  rw [← hd_k1] at S350
  obtain ⟨hk1, hk1c⟩ := own_k hcc hd_k1
  have hck := own_sub hk1 hk1c
  have hckp : 1 ≤ (cc - k1).toInt := by omega
  have S351 : ∀ t, Steps p.tables e below (T348.setTop (mkF m 54 #[.val (.int p0), .val (.int p1), .val (.long q2), .second, .val (.long q3), .second, .val (.int p4), .val (.int p5), .val (.int cc), .val (.int rr), .val (.long pe), .second, .val (.int k1), .val (.int ((p5 &&& (2147483647 : Int32)) % (cc - k1))), .unset, .unset, .unset, .unset, .unset] [])) t → Steps p.tables e below (s₁.setTop (entryFrame m #[(.int p0), (.int p1), (.long q2), (.long q3), (.int p4), (.int p5)] maxLocals)) t := by
    intro t kt
    refine S350 _ ?_
    show Steps p.tables e below (T348.setTop (mkF m 41 #[.val (.int p0), .val (.int p1), .val (.long q2), .second, .val (.long q3), .second, .val (.int p4), .val (.int p5), .val (.int cc), .val (.int rr), .val (.long pe), .second, .val (.int k1), .unset, .unset, .unset, .unset, .unset, .unset] [])) _
    refine XS.iload X348.here hx rfl (hb hby at_41) rfl ?_
    show Steps p.tables e below (T348.setTop (mkF m 43 #[.val (.int p0), .val (.int p1), .val (.long q2), .second, .val (.long q3), .second, .val (.int p4), .val (.int p5), .val (.int cc), .val (.int rr), .val (.long pe), .second, .val (.int k1), .unset, .unset, .unset, .unset, .unset, .unset] [(.int p5)])) _
    refine X348.ldcInt hx hown (mvT hZ (hw _ (List.mem_of_getElem? (i := 0) rfl))) (g := (mkF m 43 #[.val (.int p0), .val (.int p1), .val (.long q2), .second, .val (.long q3), .second, .val (.int p4), .val (.int p5), .val (.int cc), .val (.int rr), .val (.long pe), .second, .val (.int k1), .unset, .unset, .unset, .unset, .unset, .unset] [(.int p5)])) rfl (hb hby at_43) _ ?_
    show Steps p.tables e below (T348.setTop (mkF m 45 #[.val (.int p0), .val (.int p1), .val (.long q2), .second, .val (.long q3), .second, .val (.int p4), .val (.int p5), .val (.int cc), .val (.int rr), .val (.long pe), .second, .val (.int k1), .unset, .unset, .unset, .unset, .unset, .unset] [(.int (2147483647 : Int32)), (.int p5)])) _
    refine XS.iand X348.here hx rfl (hb hby at_45) rfl ?_
    show Steps p.tables e below (T348.setTop (mkF m 46 #[.val (.int p0), .val (.int p1), .val (.long q2), .second, .val (.long q3), .second, .val (.int p4), .val (.int p5), .val (.int cc), .val (.int rr), .val (.long pe), .second, .val (.int k1), .unset, .unset, .unset, .unset, .unset, .unset] [(.int (p5 &&& (2147483647 : Int32)))])) _
    refine XS.iload X348.here hx rfl (hb hby at_46) rfl ?_
    show Steps p.tables e below (T348.setTop (mkF m 48 #[.val (.int p0), .val (.int p1), .val (.long q2), .second, .val (.long q3), .second, .val (.int p4), .val (.int p5), .val (.int cc), .val (.int rr), .val (.long pe), .second, .val (.int k1), .unset, .unset, .unset, .unset, .unset, .unset] [(.int cc), (.int (p5 &&& (2147483647 : Int32)))])) _
    refine XS.iload X348.here hx rfl (hb hby at_48) rfl ?_
    show Steps p.tables e below (T348.setTop (mkF m 50 #[.val (.int p0), .val (.int p1), .val (.long q2), .second, .val (.long q3), .second, .val (.int p4), .val (.int p5), .val (.int cc), .val (.int rr), .val (.long pe), .second, .val (.int k1), .unset, .unset, .unset, .unset, .unset, .unset] [(.int k1), (.int cc), (.int (p5 &&& (2147483647 : Int32)))])) _
    refine XS.isub X348.here hx rfl (hb hby at_50) rfl ?_
    show Steps p.tables e below (T348.setTop (mkF m 51 #[.val (.int p0), .val (.int p1), .val (.long q2), .second, .val (.long q3), .second, .val (.int p4), .val (.int p5), .val (.int cc), .val (.int rr), .val (.long pe), .second, .val (.int k1), .unset, .unset, .unset, .unset, .unset, .unset] [(.int (cc - k1)), (.int (p5 &&& (2147483647 : Int32)))])) _
    refine iremM X348 hx rfl (hb hby at_51) rfl (own_ne hckp) ?_
    show Steps p.tables e below (T348.setTop (mkF m 52 #[.val (.int p0), .val (.int p1), .val (.long q2), .second, .val (.long q3), .second, .val (.int p4), .val (.int p5), .val (.int cc), .val (.int rr), .val (.long pe), .second, .val (.int k1), .unset, .unset, .unset, .unset, .unset, .unset] [(.int ((p5 &&& (2147483647 : Int32)) % (cc - k1)))])) _
    refine XS.istore X348.here hx rfl (hb hby at_52) rfl (l' := #[.val (.int p0), .val (.int p1), .val (.long q2), .second, .val (.long q3), .second, .val (.int p4), .val (.int p5), .val (.int cc), .val (.int rr), .val (.long pe), .second, .val (.int k1), .val (.int ((p5 &&& (2147483647 : Int32)) % (cc - k1))), .unset, .unset, .unset, .unset, .unset]) rfl ?_
    exact kt
  obtain ⟨k2, hd_k2⟩ : ∃ z, z = ((p5 &&& (2147483647 : Int32)) % (cc - k1)) := ⟨_, rfl⟩
  rw [← hd_k2] at S351
  obtain ⟨hk2, hk2c⟩ := own_k hckp hd_k2
  have hX0 := own_x0 hcc
  have hX1 : (((cc.toInt64) - (1 : Int64)) - (k1.toInt64)).toInt = cc.toInt - 1 - k1.toInt := by rw [own_xs hk1 (by omega), hX0]
  have hX2 : ((((cc.toInt64) - (1 : Int64)) - (k1.toInt64)) - (k2.toInt64)).toInt = cc.toInt - 1 - k1.toInt - k2.toInt := by rw [own_xs hk2 (by omega), hX1]
  have hr1 := own_r1 hcc hk1 hk1c
  obtain ⟨T352, h352, X352, e352, E352, A352, D352, -, st352⟩ := newO X348 hx hZ hown (hw _ (List.mem_of_getElem? (i := 9) rfl)) (hw _ (List.mem_of_getElem? (i := 10) rfl)) (hw _ (List.mem_of_getElem? (i := 11) rfl)) e348 (g := (mkF m 54 #[.val (.int p0), .val (.int p1), .val (.long q2), .second, .val (.long q3), .second, .val (.int p4), .val (.int p5), .val (.int cc), .val (.int rr), .val (.long pe), .second, .val (.int k1), .val (.int k2), .unset, .unset, .unset, .unset, .unset] [])) rfl (hb hby at_54) (by decide) (by decide)
  obtain ⟨b352, g352⟩ : ∃ z, z = h0.size := ⟨_, rfl⟩
  rw [← g352] at A352 D352 st352
  have ge_b352 : n0 ≤ b352 := Nat.le_trans Z0 (Nat.le_of_eq g352.symm)
  have sz_b352 : h0.size ≤ b352 := Nat.le_of_eq g352.symm
  have K353 : Keep h0 h352 [] := (Keep.refl h0 []).ext E352
  have F354 : Fld Z h352 b352 "com/example/even_bucket/evenbucket/IntervalBucket" "capacity" "I" (.int (0 : Int32)) := D352 (Or.inr (hw _ (List.mem_of_getElem? (i := 19) rfl))) (ty := .int) (by decide)
  have F355 : Fld Z h352 b352 "com/example/even_bucket/evenbucket/IntervalBucket" "refill" "I" (.int (0 : Int32)) := D352 (Or.inr (hw _ (List.mem_of_getElem? (i := 21) rfl))) (ty := .int) (by decide)
  have F356 : Fld Z h352 b352 "com/example/even_bucket/evenbucket/IntervalBucket" "periodMillis" "J" (.long (0 : Int64)) := D352 (Or.inr (hw _ (List.mem_of_getElem? (i := 23) rfl))) (ty := .long) (by decide)
  have F357 : Fld Z h352 b352 "com/example/even_bucket/evenbucket/IntervalBucket" "admitted" "Z" (.int (0 : Int32)) := D352 (Or.inl (hw _ (List.mem_of_getElem? (i := 30) rfl))) (ty := .boolean) (by decide)
  have F358 : Fld Z h352 b352 "com/example/even_bucket/evenbucket/IntervalBucket" "origin" "J" (.long (0 : Int64)) := D352 (Or.inl (hw _ (List.mem_of_getElem? (i := 32) rfl))) (ty := .long) (by decide)
  have F359 : Fld Z h352 b352 "com/example/even_bucket/evenbucket/IntervalBucket" "newest" "J" (.long (0 : Int64)) := D352 (Or.inl (hw _ (List.mem_of_getElem? (i := 34) rfl))) (ty := .long) (by decide)
  have F360 : Fld Z h352 b352 "com/example/even_bucket/evenbucket/IntervalBucket" "permits" "J" (.long (0 : Int64)) := D352 (Or.inl (hw _ (List.mem_of_getElem? (i := 36) rfl))) (ty := .long) (by decide)
  have F361 : Fld Z h352 b352 "com/example/even_bucket/evenbucket/IntervalBucket" "decidedAt" "J" (.long (0 : Int64)) := D352 (Or.inl (hw _ (List.mem_of_getElem? (i := 39) rfl))) (ty := .long) (by decide)
  obtain ⟨_, _, ⟨T362, L362, k362, n362⟩, -, X362, ⟨Lc362, hQ362, l362, y362, z362⟩, st362⟩ := X352.specialBack hx (y := (⟨"com/example/even_bucket/evenbucket/IntervalBucket", "<init>", "(IIJ)V"⟩ : MethodName)) rfl hown (mvT hZ (hw _ (List.mem_of_getElem? (i := 12) rfl))) (mvT hZ (hw _ (List.mem_of_getElem? (i := 13) rfl))) (mvT hZ (hw _ (List.mem_of_getElem? (i := 14) rfl))) (by decide) (backOf (W := 1) (rm3 l Z a0 hw [] b352 cc rr pe h352 n0 (Nat.le_trans Z0 K353.1) F354 F355 F356 F360 F358 F359 F357 F361 A352 ge_b352) hZ (hw _ (List.mem_of_getElem? (i := 14) rfl)) (hw _ (List.mem_of_getElem? (i := 11) rfl)) (by decide) (by decide)) (g := (mkF m 64 #[.val (.int p0), .val (.int p1), .val (.long q2), .second, .val (.long q3), .second, .val (.int p4), .val (.int p5), .val (.int cc), .val (.int rr), .val (.long pe), .second, .val (.int k1), .val (.int k2), .unset, .unset, .unset, .unset, .unset] [(.long pe), (.int rr), (.int cc), (.ref b352), (.ref b352)])) rfl (by rw [hml]; rfl) (Steps.refl _) (a := b352) (argsL := [(.int cc), (.int rr), (.long pe)]) (rest := [(.ref b352)]) (lenOf pd__IIJ_V rfl) rfl (by show 2 * 0 + _ ≤ _; exact Nat.le_of_eq rfl) (hb hby at_64) (fun _ _ => ⟨rfl, e352, (by decide : 1 + 0 ≤ _), (by decide : 8 + 0 ≤ _)⟩)
  dsimp only [Pt.U, Pt.locs, Pt.cells, Pt.slots] at X362 l362 y362 z362 st362 hQ362
  subst l362 y362 z362
  obtain ⟨rfl, Nq362, Kq362, f362_0, f362_1, f362_2, f362_3, f362_4, f362_5, f362_6, f362_7⟩ := hQ362
  have K363 : Keep h0 T362.heap [] := K353.trans Kq362 (fun x hx => by cases List.mem_singleton.mp hx; exact Or.inr sz_b352)
  have N362 := Fr.app N348 Nq362
  have c364 : Exa Z T362.heap b352 "com/example/even_bucket/evenbucket/IntervalBucket" := (A352.keep Kq362)
  have c366 : Sta Z T362.heap "java/time/Duration" "ZERO" "Ljava/time/Duration;" (.ref vz) := (own_sta_keepw (Sz.ext E352) Kq362 (fun x hx => by cases List.mem_singleton.mp hx; exact own_plain A352))
  obtain ⟨cq365, kq365, q365a, q365b, q365c⟩ := isOf hZ rfl c364
  obtain ⟨_, _, ⟨T365, L365, k365, n365⟩, -, X365, ⟨Lc365, hQ365, l365, y365, z365⟩, st365⟩ := X362.virtualBack hx (y := (⟨"com/example/even_bucket/evenbucket/IntervalBucket", "tryAcquire", "(J)Lcom/example/even_bucket/evenbucket/Decision;"⟩ : MethodName)) (z := (⟨"com/example/even_bucket/evenbucket/IntervalBucket", "tryAcquire", "(J)Lcom/example/even_bucket/evenbucket/Decision;"⟩ : MethodName)) hown (mvT hZ (hw _ (List.mem_of_getElem? (i := 24) rfl))) (mvT hZ (hw _ (List.mem_of_getElem? (i := 25) rfl))) (notFace_of_selects (args := #[]) (mvT hZ (hw _ (List.mem_of_getElem? (i := 27) rfl)))) (mvT hZ (hw _ (List.mem_of_getElem? (i := 27) rfl))) (mvT hZ (hw _ (List.mem_of_getElem? (i := 26) rfl))) (by decide) (backOf (W := 0) (rmtA l Z a0 hw [] b352 q3 cc rr pe vz T362.heap n0 (Nat.le_trans Z0 K363.1) f362_0 f362_1 f362_2 f362_3 f362_4 f362_5 f362_6 f362_7 c364 ge_b352 hpe hrr c366 (own_A hcc hrr) (own_neL hcc) (own_lt (by omega))) hZ (hw _ (List.mem_of_getElem? (i := 28) rfl)) (hw _ (List.mem_of_getElem? (i := 11) rfl)) (by decide) (by decide)) q365a q365c (g := (mkF m 73 #[.val (.int p0), .val (.int p1), .val (.long q2), .second, .val (.long q3), .second, .val (.int p4), .val (.int p5), .val (.int cc), .val (.int rr), .val (.long pe), .second, .val (.int k1), .val (.int k2), .val (.ref b352), .unset, .unset, .unset, .unset] [(.long q3), (.ref b352)])) rfl (by rw [hml]; rfl) (Steps.refl _) (argsL := [(.long q3)]) (rest := []) (lenOf pd__J_Lcom_example_even_bucket_evenbucket_Decision_ rfl) rfl (by show 2 * 0 + _ ≤ _; exact Nat.le_of_eq rfl) (hb hby at_73) (fun _ _ => ⟨rfl, rfl, (by decide : 1 + 1 ≤ _), (by decide : 8 + 3 ≤ _)⟩)
  dsimp only [Pt.U, Pt.locs, Pt.cells, Pt.slots] at X365 l365 y365 z365 st365 hQ365
  subst l365 y365 z365
  obtain ⟨bb_365, rfl, Nq365, Kq365, f365_0, f365_1, f365_2, f365_3, f365_4, f365_5, f365_6, f365_7⟩ := hQ365
  have K367 : Keep h0 T365.heap [] := K363.trans Kq365 (fun x hx => by cases List.mem_singleton.mp hx; exact Or.inr sz_b352)
  have N365 := Fr.app N362 Nq365
  have c368 : Exa Z T365.heap b352 "com/example/even_bucket/evenbucket/IntervalBucket" := (c364.keep Kq365)
  obtain ⟨cq369, kq369, q369a, q369b, q369c⟩ := isOf hZ rfl c368
  obtain ⟨_, _, ⟨T369, L369, k369, n369⟩, -, X369, ⟨Lc369, hQ369, l369, y369, z369⟩, st369⟩ := X365.virtualBack hx (y := (⟨"com/example/even_bucket/evenbucket/IntervalBucket", "recordAtLatestDecision", "(I)V"⟩ : MethodName)) (z := (⟨"com/example/even_bucket/evenbucket/IntervalBucket", "recordAtLatestDecision", "(I)V"⟩ : MethodName)) hown (mvT hZ (hw _ (List.mem_of_getElem? (i := 78) rfl))) (mvT hZ (hw _ (List.mem_of_getElem? (i := 79) rfl))) (notFace_of_selects (args := #[]) (mvT hZ (hw _ (List.mem_of_getElem? (i := 81) rfl)))) (mvT hZ (hw _ (List.mem_of_getElem? (i := 81) rfl))) (mvT hZ (hw _ (List.mem_of_getElem? (i := 80) rfl))) (by decide) (backOf (W := 0) (rm13 l Z a0 hw [] b352 k1 cc rr pe ((cc.toInt64) - (1 : Int64)) q3 q3 (1 : Int32) q3 T365.heap n0 (Nat.le_trans Z0 K367.1) f365_0 f365_1 f365_2 f365_3 f365_4 f365_5 f365_6 f365_7 c368 ge_b352) hZ (hw _ (List.mem_of_getElem? (i := 82) rfl)) (hw _ (List.mem_of_getElem? (i := 11) rfl)) (by decide) (by decide)) q369a q369c (g := (mkF m 81 #[.val (.int p0), .val (.int p1), .val (.long q2), .second, .val (.long q3), .second, .val (.int p4), .val (.int p5), .val (.int cc), .val (.int rr), .val (.long pe), .second, .val (.int k1), .val (.int k2), .val (.ref b352), .unset, .unset, .unset, .unset] [(.int k1), (.ref b352)])) rfl (by rw [hml]; rfl) (Steps.refl _) (argsL := [(.int k1)]) (rest := []) (lenOf pd__I_V rfl) rfl (by show 2 * 0 + _ ≤ _; exact Nat.le_of_eq rfl) (hb hby at_81) (fun _ _ => ⟨rfl, rfl, (by decide : 2 + 0 ≤ _), (by decide : 11 + 0 ≤ _)⟩)
  dsimp only [Pt.U, Pt.locs, Pt.cells, Pt.slots] at X369 l369 y369 z369 st369 hQ369
  subst l369 y369 z369
  obtain ⟨rfl, Nq369, Kq369, f369_0, f369_1, f369_2, f369_3, f369_4, f369_5, f369_6, f369_7⟩ := hQ369
  have K370 : Keep h0 T369.heap [] := K367.trans Kq369 (fun x hx => by cases List.mem_singleton.mp hx; exact Or.inr sz_b352)
  have N369 := Fr.app N365 Nq369
  have c371 : Exa Z T369.heap b352 "com/example/even_bucket/evenbucket/IntervalBucket" := (c368.keep Kq369)
  obtain ⟨cq372, kq372, q372a, q372b, q372c⟩ := isOf hZ rfl c371
  obtain ⟨_, _, ⟨T372, L372, k372, n372⟩, -, X372, hS372, gr372, ⟨Lc372, hQ372, l372, y372, z372⟩, st372⟩ := X369.virtualBackS hx (y := (⟨"com/example/even_bucket/evenbucket/IntervalBucket", "moment", "()Lcom/example/even_bucket/evenbucket/Admissions$Moment;"⟩ : MethodName)) (z := (⟨"com/example/even_bucket/evenbucket/IntervalBucket", "moment", "()Lcom/example/even_bucket/evenbucket/Admissions$Moment;"⟩ : MethodName)) hown (mvT hZ (hw _ (List.mem_of_getElem? (i := 83) rfl))) (mvT hZ (hw _ (List.mem_of_getElem? (i := 84) rfl))) (notFace_of_selects (args := #[]) (mvT hZ (hw _ (List.mem_of_getElem? (i := 86) rfl)))) (mvT hZ (hw _ (List.mem_of_getElem? (i := 86) rfl))) (mvT hZ (hw _ (List.mem_of_getElem? (i := 85) rfl))) (by decide) (backOfS (W := 0) (rm14 l Z a0 hw [] b352 cc rr pe (((cc.toInt64) - (1 : Int64)) - (k1.toInt64)) q3 T369.heap n0 (Nat.le_trans Z0 K370.1) f369_0 f369_1 f369_2 f369_3 f369_4 f369_5 f369_7 c371 hpe hrr (own_B hrr ⟨by omega, by omega⟩)) hZ (hw _ (List.mem_of_getElem? (i := 87) rfl)) (hw _ (List.mem_of_getElem? (i := 11) rfl)) (by decide) (by decide)) q372a q372c (g := (mkF m 86 #[.val (.int p0), .val (.int p1), .val (.long q2), .second, .val (.long q3), .second, .val (.int p4), .val (.int p5), .val (.int cc), .val (.int rr), .val (.long pe), .second, .val (.int k1), .val (.int k2), .val (.ref b352), .unset, .unset, .unset, .unset] [(.ref b352)])) rfl (by rw [hml]; rfl) (Steps.refl _) (argsL := []) (rest := []) (lenOf pd___Lcom_example_even_bucket_evenbucket_Admissions_Moment_ rfl) rfl (by show 2 * 0 + _ ≤ _; exact Nat.le_of_eq rfl) (hb hby at_86) (fun _ _ => ⟨rfl, rfl, (by decide : 2 + 6 ≤ _), (by decide : 11 + 55 ≤ _)⟩)
  dsimp only [Pt.U, Pt.locs, Pt.cells, Pt.slots] at X372 l372 y372 z372 st372 hQ372
  subst l372 y372 z372
  dsimp only [Pt.U, Pt.locs, Pt.cells, Pt.slots] at hS372 gr372
  obtain ⟨bb_372, rfl, Nq372, Kq372, f372_0, f372_1, f372_2, f372_3, f372_4⟩ := hQ372
  have K373 : Keep h0 T372.heap [] := K370.trans Kq372 (fun x hx => by simp at hx)
  have N372 := Fr.app N369 Nq372
  have hZ372 : Z.Warmed39 (s.setVm T372.vm).vm := State.Warmed39.trans (t := s) hZ hS372.1
  have hown372 : (s.setVm T372.vm).vm.findClass "com/example/even_bucket/evenbucket/IntervalBucketRecordAtLatestDecisionPinLaw" = some m.cls := (hS372.1.alike.findClass _ _).trans hown
  have ge_bb_372 : n0 ≤ bb_372 := Nat.le_trans (Nat.le_trans Z0 K370.1) f372_0
  have sz_bb_372 : h0.size ≤ bb_372 := Nat.le_trans K370.1 f372_0
  obtain ⟨cq374, kq374, q374a, q374b, q374c⟩ := isOf hZ372 rfl f372_1
  obtain ⟨_, _, ⟨T374, L374, k374, n374⟩, -, X374, ⟨Lc374, hQ374, l374, y374, z374⟩, st374⟩ := X372.virtualBack hx (y := (⟨"com/example/even_bucket/evenbucket/Admissions$Moment", "free", "()I"⟩ : MethodName)) (z := (⟨"com/example/even_bucket/evenbucket/Admissions$Moment", "free", "()I"⟩ : MethodName)) hown372 (mvT hZ372 (hw _ (List.mem_of_getElem? (i := 169) rfl))) (mvT hZ372 (hw _ (List.mem_of_getElem? (i := 170) rfl))) (notFace_of_selects (args := #[]) (mvT hZ372 (hw _ (List.mem_of_getElem? (i := 172) rfl)))) (mvT hZ372 (hw _ (List.mem_of_getElem? (i := 172) rfl))) (mvT hZ372 (hw _ (List.mem_of_getElem? (i := 171) rfl))) (by decide) (backOf (W := 0) (rm28 l Z a0 hw [] bb_372 ((((cc.toInt64) - (1 : Int64)) - (k1.toInt64)).toInt32) T372.heap n0 (Nat.le_trans Z0 K373.1) f372_3) hZ372 (hw _ (List.mem_of_getElem? (i := 173) rfl)) (hw _ (List.mem_of_getElem? (i := 90) rfl)) (by decide) (by decide)) q374a q374c (g := (mkF m 89 #[.val (.int p0), .val (.int p1), .val (.long q2), .second, .val (.long q3), .second, .val (.int p4), .val (.int p5), .val (.int cc), .val (.int rr), .val (.long pe), .second, .val (.int k1), .val (.int k2), .val (.ref b352), .unset, .unset, .unset, .unset] [(.ref bb_372)])) rfl (by rw [hml]; rfl) (Steps.refl _) (argsL := []) (rest := []) (lenOf pd___I rfl) rfl (by show 2 * 0 + _ ≤ _; exact Nat.le_of_eq rfl) (hb hby at_89) (fun _ _ => ⟨rfl, rfl, (by decide : 8 + 0 ≤ _), (by decide : 66 + 0 ≤ _)⟩)
  dsimp only [Pt.U, Pt.locs, Pt.cells, Pt.slots] at X374 l374 y374 z374 st374 hQ374
  subst l374 y374 z374
  obtain ⟨rfl, Nq374, e374⟩ := hQ374
  have N374 := Fr.app N372 Nq374
  have c375 : Exa Z T372.heap b352 "com/example/even_bucket/evenbucket/IntervalBucket" := (c371.keep Kq372)
  have c377 : Fld Z T372.heap b352 "com/example/even_bucket/evenbucket/IntervalBucket" "capacity" "I" (.int cc) := (f369_0.keep Kq372 List.not_mem_nil)
  have c378 : Fld Z T372.heap b352 "com/example/even_bucket/evenbucket/IntervalBucket" "refill" "I" (.int rr) := (f369_1.keep Kq372 List.not_mem_nil)
  have c379 : Fld Z T372.heap b352 "com/example/even_bucket/evenbucket/IntervalBucket" "periodMillis" "J" (.long pe) := (f369_2.keep Kq372 List.not_mem_nil)
  have c380 : Fld Z T372.heap b352 "com/example/even_bucket/evenbucket/IntervalBucket" "permits" "J" (.long (((cc.toInt64) - (1 : Int64)) - (k1.toInt64))) := (f369_3.keep Kq372 List.not_mem_nil)
  have c381 : Fld Z T372.heap b352 "com/example/even_bucket/evenbucket/IntervalBucket" "origin" "J" (.long q3) := (f369_4.keep Kq372 List.not_mem_nil)
  have c382 : Fld Z T372.heap b352 "com/example/even_bucket/evenbucket/IntervalBucket" "newest" "J" (.long q3) := (f369_5.keep Kq372 List.not_mem_nil)
  have c383 : Fld Z T372.heap b352 "com/example/even_bucket/evenbucket/IntervalBucket" "admitted" "Z" (.int (1 : Int32)) := (f369_6.keep Kq372 List.not_mem_nil)
  have c384 : Fld Z T372.heap b352 "com/example/even_bucket/evenbucket/IntervalBucket" "decidedAt" "J" (.long q3) := (f369_7.keep Kq372 List.not_mem_nil)
  obtain ⟨cq376, kq376, q376a, q376b, q376c⟩ := isOf hZ372 e374 c375
  obtain ⟨_, _, ⟨T376, L376, k376, n376⟩, -, X376, ⟨Lc376, hQ376, l376, y376, z376⟩, st376⟩ := X374.virtualBack hx (y := (⟨"com/example/even_bucket/evenbucket/IntervalBucket", "recordAtLatestDecision", "(I)V"⟩ : MethodName)) (z := (⟨"com/example/even_bucket/evenbucket/IntervalBucket", "recordAtLatestDecision", "(I)V"⟩ : MethodName)) hown372 (mvT hZ372 (hw _ (List.mem_of_getElem? (i := 78) rfl))) (mvT hZ372 (hw _ (List.mem_of_getElem? (i := 79) rfl))) (notFace_of_selects (args := #[]) (mvT hZ372 (hw _ (List.mem_of_getElem? (i := 81) rfl)))) (mvT hZ372 (hw _ (List.mem_of_getElem? (i := 81) rfl))) (mvT hZ372 (hw _ (List.mem_of_getElem? (i := 80) rfl))) (by decide) (backOf (W := 0) (rm13 l Z a0 hw [] b352 k2 cc rr pe (((cc.toInt64) - (1 : Int64)) - (k1.toInt64)) q3 q3 (1 : Int32) q3 T372.heap n0 (Nat.le_trans Z0 K373.1) c377 c378 c379 c380 c381 c382 c383 c384 c375 ge_b352) hZ372 (hw _ (List.mem_of_getElem? (i := 82) rfl)) (hw _ (List.mem_of_getElem? (i := 11) rfl)) (by decide) (by decide)) q376a q376c (g := (mkF m 112 #[.val (.int p0), .val (.int p1), .val (.long q2), .second, .val (.long q3), .second, .val (.int p4), .val (.int p5), .val (.int cc), .val (.int rr), .val (.long pe), .second, .val (.int k1), .val (.int k2), .val (.ref b352), .val (.int ((((cc.toInt64) - (1 : Int64)) - (k1.toInt64)).toInt32)), .unset, .unset, .unset] [(.int k2), (.ref b352)])) rfl (by rw [hml]; rfl) (Steps.refl _) (argsL := [(.int k2)]) (rest := []) (lenOf pd__I_V rfl) rfl (by show 2 * 0 + _ ≤ _; exact Nat.le_of_eq rfl) (hb hby at_112) (fun _ _ => ⟨rfl, e374, (by decide : 8 + 0 ≤ _), (by decide : 66 + 0 ≤ _)⟩)
  dsimp only [Pt.U, Pt.locs, Pt.cells, Pt.slots] at X376 l376 y376 z376 st376 hQ376
  subst l376 y376 z376
  obtain ⟨rfl, Nq376, Kq376, f376_0, f376_1, f376_2, f376_3, f376_4, f376_5, f376_6, f376_7⟩ := hQ376
  have K385 : Keep h0 T376.heap [] := K373.trans Kq376 (fun x hx => by cases List.mem_singleton.mp hx; exact Or.inr sz_b352)
  have hk386 : T372.heap.size ≤ T376.heap.size := Nat.le_trans (Nat.le_refl _) Kq376.1
  have N376 := Fr.app N374 Nq376
  have c387 : Exa Z T376.heap b352 "com/example/even_bucket/evenbucket/IntervalBucket" := (c375.keep Kq376)
  obtain ⟨cq388, kq388, q388a, q388b, q388c⟩ := isOf hZ372 rfl c387
  obtain ⟨_, _, ⟨T388, L388, k388, n388⟩, -, X388, hS388, gr388, ⟨Lc388, hQ388, l388, y388, z388⟩, st388⟩ := X376.virtualBackS hx (y := (⟨"com/example/even_bucket/evenbucket/IntervalBucket", "moment", "()Lcom/example/even_bucket/evenbucket/Admissions$Moment;"⟩ : MethodName)) (z := (⟨"com/example/even_bucket/evenbucket/IntervalBucket", "moment", "()Lcom/example/even_bucket/evenbucket/Admissions$Moment;"⟩ : MethodName)) hown372 (mvT hZ372 (hw _ (List.mem_of_getElem? (i := 83) rfl))) (mvT hZ372 (hw _ (List.mem_of_getElem? (i := 84) rfl))) (notFace_of_selects (args := #[]) (mvT hZ372 (hw _ (List.mem_of_getElem? (i := 86) rfl)))) (mvT hZ372 (hw _ (List.mem_of_getElem? (i := 86) rfl))) (mvT hZ372 (hw _ (List.mem_of_getElem? (i := 85) rfl))) (by decide) (backOfS (W := 0) (rm14 l Z a0 hw [] b352 cc rr pe ((((cc.toInt64) - (1 : Int64)) - (k1.toInt64)) - (k2.toInt64)) q3 T376.heap n0 (Nat.le_trans Z0 K385.1) f376_0 f376_1 f376_2 f376_3 f376_4 f376_5 f376_7 c387 hpe hrr (own_B hrr ⟨by omega, by omega⟩)) hZ372 (hw _ (List.mem_of_getElem? (i := 87) rfl)) (hw _ (List.mem_of_getElem? (i := 11) rfl)) (by decide) (by decide)) q388a q388c (g := (mkF m 117 #[.val (.int p0), .val (.int p1), .val (.long q2), .second, .val (.long q3), .second, .val (.int p4), .val (.int p5), .val (.int cc), .val (.int rr), .val (.long pe), .second, .val (.int k1), .val (.int k2), .val (.ref b352), .val (.int ((((cc.toInt64) - (1 : Int64)) - (k1.toInt64)).toInt32)), .unset, .unset, .unset] [(.ref b352)])) rfl (by rw [hml]; rfl) (Steps.refl _) (argsL := []) (rest := []) (lenOf pd___Lcom_example_even_bucket_evenbucket_Admissions_Moment_ rfl) rfl (by show 2 * 0 + _ ≤ _; exact Nat.le_of_eq rfl) (hb hby at_117) (fun _ _ => ⟨rfl, rfl, (by decide : 8 + 6 ≤ _), (by decide : 66 + 55 ≤ _)⟩)
  dsimp only [Pt.U, Pt.locs, Pt.cells, Pt.slots] at X388 l388 y388 z388 st388 hQ388
  subst l388 y388 z388
  dsimp only [Pt.U, Pt.locs, Pt.cells, Pt.slots] at hS388 gr388
  obtain ⟨bb_388, rfl, Nq388, Kq388, f388_0, f388_1, f388_2, f388_3, f388_4⟩ := hQ388
  have K389 : Keep h0 T388.heap [] := K385.trans Kq388 (fun x hx => by simp at hx)
  have hk390 : T372.heap.size ≤ T388.heap.size := Nat.le_trans hk386 Kq388.1
  have N388 := Fr.app N376 Nq388
  have hkq388 : T372.heap.size ≤ T376.heap.size := hk386
  obtain ⟨X388r, hS388r, hZ388, hown388⟩ := rebS hS372 hkq388 X388 hS388 gr388 hZ372 hown372
  clear hS388
  have hS388 := hS388r
  have ge_bb_388 : n0 ≤ bb_388 := Nat.le_trans (Nat.le_trans Z0 K385.1) f388_0
  have sz_bb_388 : h0.size ≤ bb_388 := Nat.le_trans K385.1 f388_0
  obtain ⟨cq391, kq391, q391a, q391b, q391c⟩ := isOf hZ388 rfl f388_1
  obtain ⟨_, _, ⟨T391, L391, k391, n391⟩, -, X391, ⟨Lc391, hQ391, l391, y391, z391⟩, st391⟩ := X388r.virtualBack hx (y := (⟨"com/example/even_bucket/evenbucket/Admissions$Moment", "free", "()I"⟩ : MethodName)) (z := (⟨"com/example/even_bucket/evenbucket/Admissions$Moment", "free", "()I"⟩ : MethodName)) hown388 (mvT hZ388 (hw _ (List.mem_of_getElem? (i := 169) rfl))) (mvT hZ388 (hw _ (List.mem_of_getElem? (i := 170) rfl))) (notFace_of_selects (args := #[]) (mvT hZ388 (hw _ (List.mem_of_getElem? (i := 172) rfl)))) (mvT hZ388 (hw _ (List.mem_of_getElem? (i := 172) rfl))) (mvT hZ388 (hw _ (List.mem_of_getElem? (i := 171) rfl))) (by decide) (backOf (W := 0) (rm28 l Z a0 hw [] bb_388 (((((cc.toInt64) - (1 : Int64)) - (k1.toInt64)) - (k2.toInt64)).toInt32) T388.heap n0 (Nat.le_trans Z0 K389.1) f388_3) hZ388 (hw _ (List.mem_of_getElem? (i := 173) rfl)) (hw _ (List.mem_of_getElem? (i := 90) rfl)) (by decide) (by decide)) q391a q391c (g := (mkF m 120 #[.val (.int p0), .val (.int p1), .val (.long q2), .second, .val (.long q3), .second, .val (.int p4), .val (.int p5), .val (.int cc), .val (.int rr), .val (.long pe), .second, .val (.int k1), .val (.int k2), .val (.ref b352), .val (.int ((((cc.toInt64) - (1 : Int64)) - (k1.toInt64)).toInt32)), .unset, .unset, .unset] [(.ref bb_388)])) rfl (by rw [hml]; rfl) (Steps.refl _) (argsL := []) (rest := []) (lenOf pd___I rfl) rfl (by show 2 * 0 + _ ≤ _; exact Nat.le_of_eq rfl) (hb hby at_120) (fun _ _ => ⟨rfl, rfl, (by decide : 14 + 0 ≤ _), (by decide : 121 + 0 ≤ _)⟩)
  dsimp only [Pt.U, Pt.locs, Pt.cells, Pt.slots] at X391 l391 y391 z391 st391 hQ391
  subst l391 y391 z391
  obtain ⟨rfl, Nq391, e391⟩ := hQ391
  have N391 := Fr.app N388 Nq391
  have S392 : ∀ t, Steps p.tables e below (T391.setTop (mkF m 137 #[.val (.int p0), .val (.int p1), .val (.long q2), .second, .val (.long q3), .second, .val (.int p4), .val (.int p5), .val (.int cc), .val (.int rr), .val (.long pe), .second, .val (.int k1), .val (.int k2), .val (.ref b352), .val (.int ((((cc.toInt64) - (1 : Int64)) - (k1.toInt64)).toInt32)), .val (.int (((((cc.toInt64) - (1 : Int64)) - (k1.toInt64)) - (k2.toInt64)).toInt32)), .val (.int (((cc - (1 : Int32)) - k1) - k2)), .unset] [])) t → Steps p.tables e below (s₁.setTop (entryFrame m #[(.int p0), (.int p1), (.long q2), (.long q3), (.int p4), (.int p5)] maxLocals)) t := by
    intro t kt
    refine S351 _ ?_
    show Steps p.tables e below (T348.setTop (mkF m 54 #[.val (.int p0), .val (.int p1), .val (.long q2), .second, .val (.long q3), .second, .val (.int p4), .val (.int p5), .val (.int cc), .val (.int rr), .val (.long pe), .second, .val (.int k1), .val (.int k2), .unset, .unset, .unset, .unset, .unset] [])) _
    refine st352 _ ?_
    show Steps p.tables e below (T352.setTop (mkF m 57 #[.val (.int p0), .val (.int p1), .val (.long q2), .second, .val (.long q3), .second, .val (.int p4), .val (.int p5), .val (.int cc), .val (.int rr), .val (.long pe), .second, .val (.int k1), .val (.int k2), .unset, .unset, .unset, .unset, .unset] [(.ref b352)])) _
    refine XS.dup X352.here hx rfl (hb hby at_57) rfl rfl ?_
    show Steps p.tables e below (T352.setTop (mkF m 58 #[.val (.int p0), .val (.int p1), .val (.long q2), .second, .val (.long q3), .second, .val (.int p4), .val (.int p5), .val (.int cc), .val (.int rr), .val (.long pe), .second, .val (.int k1), .val (.int k2), .unset, .unset, .unset, .unset, .unset] [(.ref b352), (.ref b352)])) _
    refine XS.iload X352.here hx rfl (hb hby at_58) rfl ?_
    show Steps p.tables e below (T352.setTop (mkF m 60 #[.val (.int p0), .val (.int p1), .val (.long q2), .second, .val (.long q3), .second, .val (.int p4), .val (.int p5), .val (.int cc), .val (.int rr), .val (.long pe), .second, .val (.int k1), .val (.int k2), .unset, .unset, .unset, .unset, .unset] [(.int cc), (.ref b352), (.ref b352)])) _
    refine XS.iload X352.here hx rfl (hb hby at_60) rfl ?_
    show Steps p.tables e below (T352.setTop (mkF m 62 #[.val (.int p0), .val (.int p1), .val (.long q2), .second, .val (.long q3), .second, .val (.int p4), .val (.int p5), .val (.int cc), .val (.int rr), .val (.long pe), .second, .val (.int k1), .val (.int k2), .unset, .unset, .unset, .unset, .unset] [(.int rr), (.int cc), (.ref b352), (.ref b352)])) _
    refine XS.lload X352.here hx rfl (hb hby at_62) rfl ?_
    show Steps p.tables e below (T352.setTop (mkF m 64 #[.val (.int p0), .val (.int p1), .val (.long q2), .second, .val (.long q3), .second, .val (.int p4), .val (.int p5), .val (.int cc), .val (.int rr), .val (.long pe), .second, .val (.int k1), .val (.int k2), .unset, .unset, .unset, .unset, .unset] [(.long pe), (.int rr), (.int cc), (.ref b352), (.ref b352)])) _
    refine st362.trans ?_
    show Steps p.tables e below (T362.setTop (mkF m 67 #[.val (.int p0), .val (.int p1), .val (.long q2), .second, .val (.long q3), .second, .val (.int p4), .val (.int p5), .val (.int cc), .val (.int rr), .val (.long pe), .second, .val (.int k1), .val (.int k2), .unset, .unset, .unset, .unset, .unset] [(.ref b352)])) _
    refine XS.astore X362.here hx rfl (hb hby at_67) rfl rfl (l' := #[.val (.int p0), .val (.int p1), .val (.long q2), .second, .val (.long q3), .second, .val (.int p4), .val (.int p5), .val (.int cc), .val (.int rr), .val (.long pe), .second, .val (.int k1), .val (.int k2), .val (.ref b352), .unset, .unset, .unset, .unset]) rfl ?_
    show Steps p.tables e below (T362.setTop (mkF m 69 #[.val (.int p0), .val (.int p1), .val (.long q2), .second, .val (.long q3), .second, .val (.int p4), .val (.int p5), .val (.int cc), .val (.int rr), .val (.long pe), .second, .val (.int k1), .val (.int k2), .val (.ref b352), .unset, .unset, .unset, .unset] [])) _
    refine XS.aload X362.here hx rfl (hb hby at_69) rfl rfl ?_
    show Steps p.tables e below (T362.setTop (mkF m 71 #[.val (.int p0), .val (.int p1), .val (.long q2), .second, .val (.long q3), .second, .val (.int p4), .val (.int p5), .val (.int cc), .val (.int rr), .val (.long pe), .second, .val (.int k1), .val (.int k2), .val (.ref b352), .unset, .unset, .unset, .unset] [(.ref b352)])) _
    refine XS.lload X362.here hx rfl (hb hby at_71) rfl ?_
    show Steps p.tables e below (T362.setTop (mkF m 73 #[.val (.int p0), .val (.int p1), .val (.long q2), .second, .val (.long q3), .second, .val (.int p4), .val (.int p5), .val (.int cc), .val (.int rr), .val (.long pe), .second, .val (.int k1), .val (.int k2), .val (.ref b352), .unset, .unset, .unset, .unset] [(.long q3), (.ref b352)])) _
    refine st365.trans ?_
    show Steps p.tables e below (T365.setTop (mkF m 76 #[.val (.int p0), .val (.int p1), .val (.long q2), .second, .val (.long q3), .second, .val (.int p4), .val (.int p5), .val (.int cc), .val (.int rr), .val (.long pe), .second, .val (.int k1), .val (.int k2), .val (.ref b352), .unset, .unset, .unset, .unset] [(.ref bb_365)])) _
    refine XS.pop X365.here hx rfl (hb hby at_76) rfl rfl ?_
    show Steps p.tables e below (T365.setTop (mkF m 77 #[.val (.int p0), .val (.int p1), .val (.long q2), .second, .val (.long q3), .second, .val (.int p4), .val (.int p5), .val (.int cc), .val (.int rr), .val (.long pe), .second, .val (.int k1), .val (.int k2), .val (.ref b352), .unset, .unset, .unset, .unset] [])) _
    refine XS.aload X365.here hx rfl (hb hby at_77) rfl rfl ?_
    show Steps p.tables e below (T365.setTop (mkF m 79 #[.val (.int p0), .val (.int p1), .val (.long q2), .second, .val (.long q3), .second, .val (.int p4), .val (.int p5), .val (.int cc), .val (.int rr), .val (.long pe), .second, .val (.int k1), .val (.int k2), .val (.ref b352), .unset, .unset, .unset, .unset] [(.ref b352)])) _
    refine XS.iload X365.here hx rfl (hb hby at_79) rfl ?_
    show Steps p.tables e below (T365.setTop (mkF m 81 #[.val (.int p0), .val (.int p1), .val (.long q2), .second, .val (.long q3), .second, .val (.int p4), .val (.int p5), .val (.int cc), .val (.int rr), .val (.long pe), .second, .val (.int k1), .val (.int k2), .val (.ref b352), .unset, .unset, .unset, .unset] [(.int k1), (.ref b352)])) _
    refine st369.trans ?_
    show Steps p.tables e below (T369.setTop (mkF m 84 #[.val (.int p0), .val (.int p1), .val (.long q2), .second, .val (.long q3), .second, .val (.int p4), .val (.int p5), .val (.int cc), .val (.int rr), .val (.long pe), .second, .val (.int k1), .val (.int k2), .val (.ref b352), .unset, .unset, .unset, .unset] [])) _
    refine XS.aload X369.here hx rfl (hb hby at_84) rfl rfl ?_
    show Steps p.tables e below (T369.setTop (mkF m 86 #[.val (.int p0), .val (.int p1), .val (.long q2), .second, .val (.long q3), .second, .val (.int p4), .val (.int p5), .val (.int cc), .val (.int rr), .val (.long pe), .second, .val (.int k1), .val (.int k2), .val (.ref b352), .unset, .unset, .unset, .unset] [(.ref b352)])) _
    refine st372.trans ?_
    show Steps p.tables e below (T372.setTop (mkF m 89 #[.val (.int p0), .val (.int p1), .val (.long q2), .second, .val (.long q3), .second, .val (.int p4), .val (.int p5), .val (.int cc), .val (.int rr), .val (.long pe), .second, .val (.int k1), .val (.int k2), .val (.ref b352), .unset, .unset, .unset, .unset] [(.ref bb_372)])) _
    refine st374.trans ?_
    show Steps p.tables e below (T374.setTop (mkF m 92 #[.val (.int p0), .val (.int p1), .val (.long q2), .second, .val (.long q3), .second, .val (.int p4), .val (.int p5), .val (.int cc), .val (.int rr), .val (.long pe), .second, .val (.int k1), .val (.int k2), .val (.ref b352), .unset, .unset, .unset, .unset] [(.int ((((cc.toInt64) - (1 : Int64)) - (k1.toInt64)).toInt32))])) _
    refine XS.istore X374.here hx rfl (hb hby at_92) rfl (l' := #[.val (.int p0), .val (.int p1), .val (.long q2), .second, .val (.long q3), .second, .val (.int p4), .val (.int p5), .val (.int cc), .val (.int rr), .val (.long pe), .second, .val (.int k1), .val (.int k2), .val (.ref b352), .val (.int ((((cc.toInt64) - (1 : Int64)) - (k1.toInt64)).toInt32)), .unset, .unset, .unset]) rfl ?_
    show Steps p.tables e below (T374.setTop (mkF m 94 #[.val (.int p0), .val (.int p1), .val (.long q2), .second, .val (.long q3), .second, .val (.int p4), .val (.int p5), .val (.int cc), .val (.int rr), .val (.long pe), .second, .val (.int k1), .val (.int k2), .val (.ref b352), .val (.int ((((cc.toInt64) - (1 : Int64)) - (k1.toInt64)).toInt32)), .unset, .unset, .unset] [])) _
    refine XS.iload X374.here hx rfl (hb hby at_94) rfl ?_
    show Steps p.tables e below (T374.setTop (mkF m 96 #[.val (.int p0), .val (.int p1), .val (.long q2), .second, .val (.long q3), .second, .val (.int p4), .val (.int p5), .val (.int cc), .val (.int rr), .val (.long pe), .second, .val (.int k1), .val (.int k2), .val (.ref b352), .val (.int ((((cc.toInt64) - (1 : Int64)) - (k1.toInt64)).toInt32)), .unset, .unset, .unset] [(.int ((((cc.toInt64) - (1 : Int64)) - (k1.toInt64)).toInt32))])) _
    refine XS.iload X374.here hx rfl (hb hby at_96) rfl ?_
    show Steps p.tables e below (T374.setTop (mkF m 98 #[.val (.int p0), .val (.int p1), .val (.long q2), .second, .val (.long q3), .second, .val (.int p4), .val (.int p5), .val (.int cc), .val (.int rr), .val (.long pe), .second, .val (.int k1), .val (.int k2), .val (.ref b352), .val (.int ((((cc.toInt64) - (1 : Int64)) - (k1.toInt64)).toInt32)), .unset, .unset, .unset] [(.int cc), (.int ((((cc.toInt64) - (1 : Int64)) - (k1.toInt64)).toInt32))])) _
    refine XS.iconst X374.here hx rfl (hb hby at_98) ?_
    show Steps p.tables e below (T374.setTop (mkF m 99 #[.val (.int p0), .val (.int p1), .val (.long q2), .second, .val (.long q3), .second, .val (.int p4), .val (.int p5), .val (.int cc), .val (.int rr), .val (.long pe), .second, .val (.int k1), .val (.int k2), .val (.ref b352), .val (.int ((((cc.toInt64) - (1 : Int64)) - (k1.toInt64)).toInt32)), .unset, .unset, .unset] [(.int (1 : Int32)), (.int cc), (.int ((((cc.toInt64) - (1 : Int64)) - (k1.toInt64)).toInt32))])) _
    refine XS.isub X374.here hx rfl (hb hby at_99) rfl ?_
    show Steps p.tables e below (T374.setTop (mkF m 100 #[.val (.int p0), .val (.int p1), .val (.long q2), .second, .val (.long q3), .second, .val (.int p4), .val (.int p5), .val (.int cc), .val (.int rr), .val (.long pe), .second, .val (.int k1), .val (.int k2), .val (.ref b352), .val (.int ((((cc.toInt64) - (1 : Int64)) - (k1.toInt64)).toInt32)), .unset, .unset, .unset] [(.int (cc - (1 : Int32))), (.int ((((cc.toInt64) - (1 : Int64)) - (k1.toInt64)).toInt32))])) _
    refine XS.iload X374.here hx rfl (hb hby at_100) rfl ?_
    show Steps p.tables e below (T374.setTop (mkF m 102 #[.val (.int p0), .val (.int p1), .val (.long q2), .second, .val (.long q3), .second, .val (.int p4), .val (.int p5), .val (.int cc), .val (.int rr), .val (.long pe), .second, .val (.int k1), .val (.int k2), .val (.ref b352), .val (.int ((((cc.toInt64) - (1 : Int64)) - (k1.toInt64)).toInt32)), .unset, .unset, .unset] [(.int k1), (.int (cc - (1 : Int32))), (.int ((((cc.toInt64) - (1 : Int64)) - (k1.toInt64)).toInt32))])) _
    refine XS.isub X374.here hx rfl (hb hby at_102) rfl ?_
    show Steps p.tables e below (T374.setTop (mkF m 103 #[.val (.int p0), .val (.int p1), .val (.long q2), .second, .val (.long q3), .second, .val (.int p4), .val (.int p5), .val (.int cc), .val (.int rr), .val (.long pe), .second, .val (.int k1), .val (.int k2), .val (.ref b352), .val (.int ((((cc.toInt64) - (1 : Int64)) - (k1.toInt64)).toInt32)), .unset, .unset, .unset] [(.int ((cc - (1 : Int32)) - k1)), (.int ((((cc.toInt64) - (1 : Int64)) - (k1.toInt64)).toInt32))])) _
    refine XS.icmpYes X374.here hx rfl (pc0 := 103) (pc' := 108) rfl (hb hby at_103) rfl (XT.ii_eq_t (own_i (by rw [hX1, hr1]))) (by decide) (by decide) ?_
    show Steps p.tables e below (T374.setTop (mkF m 108 #[.val (.int p0), .val (.int p1), .val (.long q2), .second, .val (.long q3), .second, .val (.int p4), .val (.int p5), .val (.int cc), .val (.int rr), .val (.long pe), .second, .val (.int k1), .val (.int k2), .val (.ref b352), .val (.int ((((cc.toInt64) - (1 : Int64)) - (k1.toInt64)).toInt32)), .unset, .unset, .unset] [])) _
    refine XS.aload X374.here hx rfl (hb hby at_108) rfl rfl ?_
    show Steps p.tables e below (T374.setTop (mkF m 110 #[.val (.int p0), .val (.int p1), .val (.long q2), .second, .val (.long q3), .second, .val (.int p4), .val (.int p5), .val (.int cc), .val (.int rr), .val (.long pe), .second, .val (.int k1), .val (.int k2), .val (.ref b352), .val (.int ((((cc.toInt64) - (1 : Int64)) - (k1.toInt64)).toInt32)), .unset, .unset, .unset] [(.ref b352)])) _
    refine XS.iload X374.here hx rfl (hb hby at_110) rfl ?_
    show Steps p.tables e below (T374.setTop (mkF m 112 #[.val (.int p0), .val (.int p1), .val (.long q2), .second, .val (.long q3), .second, .val (.int p4), .val (.int p5), .val (.int cc), .val (.int rr), .val (.long pe), .second, .val (.int k1), .val (.int k2), .val (.ref b352), .val (.int ((((cc.toInt64) - (1 : Int64)) - (k1.toInt64)).toInt32)), .unset, .unset, .unset] [(.int k2), (.ref b352)])) _
    refine st376.trans ?_
    show Steps p.tables e below (T376.setTop (mkF m 115 #[.val (.int p0), .val (.int p1), .val (.long q2), .second, .val (.long q3), .second, .val (.int p4), .val (.int p5), .val (.int cc), .val (.int rr), .val (.long pe), .second, .val (.int k1), .val (.int k2), .val (.ref b352), .val (.int ((((cc.toInt64) - (1 : Int64)) - (k1.toInt64)).toInt32)), .unset, .unset, .unset] [])) _
    refine XS.aload X376.here hx rfl (hb hby at_115) rfl rfl ?_
    show Steps p.tables e below (T376.setTop (mkF m 117 #[.val (.int p0), .val (.int p1), .val (.long q2), .second, .val (.long q3), .second, .val (.int p4), .val (.int p5), .val (.int cc), .val (.int rr), .val (.long pe), .second, .val (.int k1), .val (.int k2), .val (.ref b352), .val (.int ((((cc.toInt64) - (1 : Int64)) - (k1.toInt64)).toInt32)), .unset, .unset, .unset] [(.ref b352)])) _
    refine st388.trans ?_
    show Steps p.tables e below (T388.setTop (mkF m 120 #[.val (.int p0), .val (.int p1), .val (.long q2), .second, .val (.long q3), .second, .val (.int p4), .val (.int p5), .val (.int cc), .val (.int rr), .val (.long pe), .second, .val (.int k1), .val (.int k2), .val (.ref b352), .val (.int ((((cc.toInt64) - (1 : Int64)) - (k1.toInt64)).toInt32)), .unset, .unset, .unset] [(.ref bb_388)])) _
    refine st391.trans ?_
    show Steps p.tables e below (T391.setTop (mkF m 123 #[.val (.int p0), .val (.int p1), .val (.long q2), .second, .val (.long q3), .second, .val (.int p4), .val (.int p5), .val (.int cc), .val (.int rr), .val (.long pe), .second, .val (.int k1), .val (.int k2), .val (.ref b352), .val (.int ((((cc.toInt64) - (1 : Int64)) - (k1.toInt64)).toInt32)), .unset, .unset, .unset] [(.int (((((cc.toInt64) - (1 : Int64)) - (k1.toInt64)) - (k2.toInt64)).toInt32))])) _
    refine XS.istore X391.here hx rfl (hb hby at_123) rfl (l' := #[.val (.int p0), .val (.int p1), .val (.long q2), .second, .val (.long q3), .second, .val (.int p4), .val (.int p5), .val (.int cc), .val (.int rr), .val (.long pe), .second, .val (.int k1), .val (.int k2), .val (.ref b352), .val (.int ((((cc.toInt64) - (1 : Int64)) - (k1.toInt64)).toInt32)), .val (.int (((((cc.toInt64) - (1 : Int64)) - (k1.toInt64)) - (k2.toInt64)).toInt32)), .unset, .unset]) rfl ?_
    show Steps p.tables e below (T391.setTop (mkF m 125 #[.val (.int p0), .val (.int p1), .val (.long q2), .second, .val (.long q3), .second, .val (.int p4), .val (.int p5), .val (.int cc), .val (.int rr), .val (.long pe), .second, .val (.int k1), .val (.int k2), .val (.ref b352), .val (.int ((((cc.toInt64) - (1 : Int64)) - (k1.toInt64)).toInt32)), .val (.int (((((cc.toInt64) - (1 : Int64)) - (k1.toInt64)) - (k2.toInt64)).toInt32)), .unset, .unset] [])) _
    refine XS.iload X391.here hx rfl (hb hby at_125) rfl ?_
    show Steps p.tables e below (T391.setTop (mkF m 127 #[.val (.int p0), .val (.int p1), .val (.long q2), .second, .val (.long q3), .second, .val (.int p4), .val (.int p5), .val (.int cc), .val (.int rr), .val (.long pe), .second, .val (.int k1), .val (.int k2), .val (.ref b352), .val (.int ((((cc.toInt64) - (1 : Int64)) - (k1.toInt64)).toInt32)), .val (.int (((((cc.toInt64) - (1 : Int64)) - (k1.toInt64)) - (k2.toInt64)).toInt32)), .unset, .unset] [(.int cc)])) _
    refine XS.iconst X391.here hx rfl (hb hby at_127) ?_
    show Steps p.tables e below (T391.setTop (mkF m 128 #[.val (.int p0), .val (.int p1), .val (.long q2), .second, .val (.long q3), .second, .val (.int p4), .val (.int p5), .val (.int cc), .val (.int rr), .val (.long pe), .second, .val (.int k1), .val (.int k2), .val (.ref b352), .val (.int ((((cc.toInt64) - (1 : Int64)) - (k1.toInt64)).toInt32)), .val (.int (((((cc.toInt64) - (1 : Int64)) - (k1.toInt64)) - (k2.toInt64)).toInt32)), .unset, .unset] [(.int (1 : Int32)), (.int cc)])) _
    refine XS.isub X391.here hx rfl (hb hby at_128) rfl ?_
    show Steps p.tables e below (T391.setTop (mkF m 129 #[.val (.int p0), .val (.int p1), .val (.long q2), .second, .val (.long q3), .second, .val (.int p4), .val (.int p5), .val (.int cc), .val (.int rr), .val (.long pe), .second, .val (.int k1), .val (.int k2), .val (.ref b352), .val (.int ((((cc.toInt64) - (1 : Int64)) - (k1.toInt64)).toInt32)), .val (.int (((((cc.toInt64) - (1 : Int64)) - (k1.toInt64)) - (k2.toInt64)).toInt32)), .unset, .unset] [(.int (cc - (1 : Int32)))])) _
    refine XS.iload X391.here hx rfl (hb hby at_129) rfl ?_
    show Steps p.tables e below (T391.setTop (mkF m 131 #[.val (.int p0), .val (.int p1), .val (.long q2), .second, .val (.long q3), .second, .val (.int p4), .val (.int p5), .val (.int cc), .val (.int rr), .val (.long pe), .second, .val (.int k1), .val (.int k2), .val (.ref b352), .val (.int ((((cc.toInt64) - (1 : Int64)) - (k1.toInt64)).toInt32)), .val (.int (((((cc.toInt64) - (1 : Int64)) - (k1.toInt64)) - (k2.toInt64)).toInt32)), .unset, .unset] [(.int k1), (.int (cc - (1 : Int32)))])) _
    refine XS.isub X391.here hx rfl (hb hby at_131) rfl ?_
    show Steps p.tables e below (T391.setTop (mkF m 132 #[.val (.int p0), .val (.int p1), .val (.long q2), .second, .val (.long q3), .second, .val (.int p4), .val (.int p5), .val (.int cc), .val (.int rr), .val (.long pe), .second, .val (.int k1), .val (.int k2), .val (.ref b352), .val (.int ((((cc.toInt64) - (1 : Int64)) - (k1.toInt64)).toInt32)), .val (.int (((((cc.toInt64) - (1 : Int64)) - (k1.toInt64)) - (k2.toInt64)).toInt32)), .unset, .unset] [(.int ((cc - (1 : Int32)) - k1))])) _
    refine XS.iload X391.here hx rfl (hb hby at_132) rfl ?_
    show Steps p.tables e below (T391.setTop (mkF m 134 #[.val (.int p0), .val (.int p1), .val (.long q2), .second, .val (.long q3), .second, .val (.int p4), .val (.int p5), .val (.int cc), .val (.int rr), .val (.long pe), .second, .val (.int k1), .val (.int k2), .val (.ref b352), .val (.int ((((cc.toInt64) - (1 : Int64)) - (k1.toInt64)).toInt32)), .val (.int (((((cc.toInt64) - (1 : Int64)) - (k1.toInt64)) - (k2.toInt64)).toInt32)), .unset, .unset] [(.int k2), (.int ((cc - (1 : Int32)) - k1))])) _
    refine XS.isub X391.here hx rfl (hb hby at_134) rfl ?_
    show Steps p.tables e below (T391.setTop (mkF m 135 #[.val (.int p0), .val (.int p1), .val (.long q2), .second, .val (.long q3), .second, .val (.int p4), .val (.int p5), .val (.int cc), .val (.int rr), .val (.long pe), .second, .val (.int k1), .val (.int k2), .val (.ref b352), .val (.int ((((cc.toInt64) - (1 : Int64)) - (k1.toInt64)).toInt32)), .val (.int (((((cc.toInt64) - (1 : Int64)) - (k1.toInt64)) - (k2.toInt64)).toInt32)), .unset, .unset] [(.int (((cc - (1 : Int32)) - k1) - k2))])) _
    refine XS.istore X391.here hx rfl (hb hby at_135) rfl (l' := #[.val (.int p0), .val (.int p1), .val (.long q2), .second, .val (.long q3), .second, .val (.int p4), .val (.int p5), .val (.int cc), .val (.int rr), .val (.long pe), .second, .val (.int k1), .val (.int k2), .val (.ref b352), .val (.int ((((cc.toInt64) - (1 : Int64)) - (k1.toInt64)).toInt32)), .val (.int (((((cc.toInt64) - (1 : Int64)) - (k1.toInt64)) - (k2.toInt64)).toInt32)), .val (.int (((cc - (1 : Int32)) - k1) - k2)), .unset]) rfl ?_
    exact kt
  obtain ⟨rm, hd_rm⟩ : ∃ z, z = (((cc - (1 : Int32)) - k1) - k2) := ⟨_, rfl⟩
  rw [← hd_rm] at S392
  have hrmb := rm.toInt_lt
  have hrm : rm.toInt = cc.toInt - 1 - k1.toInt - k2.toInt := by rw [hd_rm, Jvm.Kit.i32_sub (by have := cc.toInt_lt; omega) (by have := cc.toInt_lt; omega), hr1]
  have S393 : ∀ t, Steps p.tables e below (T391.setTop (mkF m 146 #[.val (.int p0), .val (.int p1), .val (.long q2), .second, .val (.long q3), .second, .val (.int p4), .val (.int p5), .val (.int cc), .val (.int rr), .val (.long pe), .second, .val (.int k1), .val (.int k2), .val (.ref b352), .val (.int ((((cc.toInt64) - (1 : Int64)) - (k1.toInt64)).toInt32)), .val (.int (((((cc.toInt64) - (1 : Int64)) - (k1.toInt64)) - (k2.toInt64)).toInt32)), .val (.int rm), .unset] [])) t → Steps p.tables e below (s₁.setTop (entryFrame m #[(.int p0), (.int p1), (.long q2), (.long q3), (.int p4), (.int p5)] maxLocals)) t := by
    intro t kt
    refine S392 _ ?_
    show Steps p.tables e below (T391.setTop (mkF m 137 #[.val (.int p0), .val (.int p1), .val (.long q2), .second, .val (.long q3), .second, .val (.int p4), .val (.int p5), .val (.int cc), .val (.int rr), .val (.long pe), .second, .val (.int k1), .val (.int k2), .val (.ref b352), .val (.int ((((cc.toInt64) - (1 : Int64)) - (k1.toInt64)).toInt32)), .val (.int (((((cc.toInt64) - (1 : Int64)) - (k1.toInt64)) - (k2.toInt64)).toInt32)), .val (.int rm), .unset] [])) _
    refine XS.iload X391.here hx rfl (hb hby at_137) rfl ?_
    show Steps p.tables e below (T391.setTop (mkF m 139 #[.val (.int p0), .val (.int p1), .val (.long q2), .second, .val (.long q3), .second, .val (.int p4), .val (.int p5), .val (.int cc), .val (.int rr), .val (.long pe), .second, .val (.int k1), .val (.int k2), .val (.ref b352), .val (.int ((((cc.toInt64) - (1 : Int64)) - (k1.toInt64)).toInt32)), .val (.int (((((cc.toInt64) - (1 : Int64)) - (k1.toInt64)) - (k2.toInt64)).toInt32)), .val (.int rm), .unset] [(.int (((((cc.toInt64) - (1 : Int64)) - (k1.toInt64)) - (k2.toInt64)).toInt32))])) _
    refine XS.iload X391.here hx rfl (hb hby at_139) rfl ?_
    show Steps p.tables e below (T391.setTop (mkF m 141 #[.val (.int p0), .val (.int p1), .val (.long q2), .second, .val (.long q3), .second, .val (.int p4), .val (.int p5), .val (.int cc), .val (.int rr), .val (.long pe), .second, .val (.int k1), .val (.int k2), .val (.ref b352), .val (.int ((((cc.toInt64) - (1 : Int64)) - (k1.toInt64)).toInt32)), .val (.int (((((cc.toInt64) - (1 : Int64)) - (k1.toInt64)) - (k2.toInt64)).toInt32)), .val (.int rm), .unset] [(.int rm), (.int (((((cc.toInt64) - (1 : Int64)) - (k1.toInt64)) - (k2.toInt64)).toInt32))])) _
    refine XS.icmpYes X391.here hx rfl (pc0 := 141) (pc' := 146) rfl (hb hby at_141) rfl (XT.ii_eq_t (own_i (by rw [hX2, hrm]))) (by decide) (by decide) ?_
    exact kt
  by_cases hc146_394 : 0 < rm
  case pos =>
    have c395 : Exa Z T388.heap b352 "com/example/even_bucket/evenbucket/IntervalBucket" := (c387.keep Kq388)
    have c397 : Fld Z T388.heap b352 "com/example/even_bucket/evenbucket/IntervalBucket" "capacity" "I" (.int cc) := (f376_0.keep Kq388 List.not_mem_nil)
    have c398 : Fld Z T388.heap b352 "com/example/even_bucket/evenbucket/IntervalBucket" "refill" "I" (.int rr) := (f376_1.keep Kq388 List.not_mem_nil)
    have c399 : Fld Z T388.heap b352 "com/example/even_bucket/evenbucket/IntervalBucket" "periodMillis" "J" (.long pe) := (f376_2.keep Kq388 List.not_mem_nil)
    have c400 : Fld Z T388.heap b352 "com/example/even_bucket/evenbucket/IntervalBucket" "permits" "J" (.long ((((cc.toInt64) - (1 : Int64)) - (k1.toInt64)) - (k2.toInt64))) := (f376_3.keep Kq388 List.not_mem_nil)
    have c401 : Fld Z T388.heap b352 "com/example/even_bucket/evenbucket/IntervalBucket" "origin" "J" (.long q3) := (f376_4.keep Kq388 List.not_mem_nil)
    have c402 : Fld Z T388.heap b352 "com/example/even_bucket/evenbucket/IntervalBucket" "newest" "J" (.long q3) := (f376_5.keep Kq388 List.not_mem_nil)
    have c403 : Fld Z T388.heap b352 "com/example/even_bucket/evenbucket/IntervalBucket" "admitted" "Z" (.int (1 : Int32)) := (f376_6.keep Kq388 List.not_mem_nil)
    have c404 : Fld Z T388.heap b352 "com/example/even_bucket/evenbucket/IntervalBucket" "decidedAt" "J" (.long q3) := (f376_7.keep Kq388 List.not_mem_nil)
    have c405 : Sta Z T388.heap "java/time/Duration" "ZERO" "Ljava/time/Duration;" (.ref vz) := (own_sta_keep (own_sta_keepw (own_sta_keep (own_sta_keepw (own_sta_keepw c366 Kq365 (fun x hx => by cases List.mem_singleton.mp hx; exact own_plain c364)) Kq369 (fun x hx => by cases List.mem_singleton.mp hx; exact own_plain c368)) Kq372) Kq376 (fun x hx => by cases List.mem_singleton.mp hx; exact own_plain c375)) Kq388)
    obtain ⟨cq396, kq396, q396a, q396b, q396c⟩ := isOf hZ388 e391 c395
    obtain ⟨_, _, ⟨T396, L396, k396, n396⟩, -, X396, ⟨Lc396, hQ396, l396, y396, z396⟩, st396⟩ := X391.virtualBack hx (y := (⟨"com/example/even_bucket/evenbucket/IntervalBucket", "tryAcquire", "(J)Lcom/example/even_bucket/evenbucket/Decision;"⟩ : MethodName)) (z := (⟨"com/example/even_bucket/evenbucket/IntervalBucket", "tryAcquire", "(J)Lcom/example/even_bucket/evenbucket/Decision;"⟩ : MethodName)) hown388 (mvT hZ388 (hw _ (List.mem_of_getElem? (i := 24) rfl))) (mvT hZ388 (hw _ (List.mem_of_getElem? (i := 25) rfl))) (notFace_of_selects (args := #[]) (mvT hZ388 (hw _ (List.mem_of_getElem? (i := 27) rfl)))) (mvT hZ388 (hw _ (List.mem_of_getElem? (i := 27) rfl))) (mvT hZ388 (hw _ (List.mem_of_getElem? (i := 26) rfl))) (by decide) (backOf (W := 0) (rmtB l Z a0 hw [] b352 q3 cc rr pe ((((cc.toInt64) - (1 : Int64)) - (k1.toInt64)) - (k2.toInt64)) vz T388.heap n0 (Nat.le_trans Z0 K389.1) c397 c398 c399 c400 c401 c402 c403 c404 c395 ge_b352 hpe hrr c405 (own_B hrr ⟨by omega, by omega⟩) (own_nzx (by have := hc146_394; rw [Int32.lt_iff_toInt_lt, show (0 : Int32).toInt = 0 from rfl] at this; omega)) (own_lt (by have := hc146_394; rw [Int32.lt_iff_toInt_lt, show (0 : Int32).toInt = 0 from rfl] at this; rw [Jvm.Kit.i64_sub (by rw [show (1 : Int64).toInt = 1 from rfl]; omega) (by rw [show (1 : Int64).toInt = 1 from rfl]; omega), show (1 : Int64).toInt = 1 from rfl]; omega))) hZ388 (hw _ (List.mem_of_getElem? (i := 28) rfl)) (hw _ (List.mem_of_getElem? (i := 11) rfl)) (by decide) (by decide)) q396a q396c (g := (mkF m 150 #[.val (.int p0), .val (.int p1), .val (.long q2), .second, .val (.long q3), .second, .val (.int p4), .val (.int p5), .val (.int cc), .val (.int rr), .val (.long pe), .second, .val (.int k1), .val (.int k2), .val (.ref b352), .val (.int ((((cc.toInt64) - (1 : Int64)) - (k1.toInt64)).toInt32)), .val (.int (((((cc.toInt64) - (1 : Int64)) - (k1.toInt64)) - (k2.toInt64)).toInt32)), .val (.int rm), .unset] [(.long q3), (.ref b352)])) rfl (by rw [hml]; rfl) (Steps.refl _) (argsL := [(.long q3)]) (rest := []) (lenOf pd__J_Lcom_example_even_bucket_evenbucket_Decision_ rfl) rfl (by show 2 * 0 + _ ≤ _; exact Nat.le_of_eq rfl) (hb hby at_150) (fun _ _ => ⟨rfl, e391, (by decide : 14 + 1 ≤ _), (by decide : 121 + 3 ≤ _)⟩)
    dsimp only [Pt.U, Pt.locs, Pt.cells, Pt.slots] at X396 l396 y396 z396 st396 hQ396
    subst l396 y396 z396
    obtain ⟨bb_396, rfl, Nq396, Kq396, f396_0, f396_1, f396_2, f396_3⟩ := hQ396
    have K406 : Keep h0 T396.heap [] := K389.trans Kq396 (fun x hx => by cases List.mem_singleton.mp hx; exact Or.inr sz_b352)
    have hk407 : T388.heap.size ≤ T396.heap.size := Nat.le_trans (Nat.le_refl _) Kq396.1
    have N396 := Fr.app N391 Nq396
    have ge_bb_396 : n0 ≤ bb_396 := Nat.le_trans (Nat.le_trans Z0 K389.1) f396_0
    have sz_bb_396 : h0.size ≤ bb_396 := Nat.le_trans K389.1 f396_0
    have c409 : Exa Z T396.heap vz "java/time/Duration" := ((((((((Ez.ext E352).keep Kq362).keep Kq365).keep Kq369).keep Kq372).keep Kq376).keep Kq388).keep Kq396)
    have c410 : Fld Z T396.heap vz "java/time/Duration" "seconds" "J" (.long (0 : Int64)) := ((((((((Fz0.ext E352).keep Kq362 (by simp [(Nat.ne_of_lt (Nat.lt_of_lt_of_le Fz0.lt (Nat.le_of_eq g352.symm)))])).keep Kq365 (by simp [(Nat.ne_of_lt (Nat.lt_of_lt_of_le Fz0.lt (Nat.le_of_eq g352.symm)))])).keep Kq369 (by simp [(Nat.ne_of_lt (Nat.lt_of_lt_of_le Fz0.lt (Nat.le_of_eq g352.symm)))])).keep Kq372 List.not_mem_nil).keep Kq376 (by simp [(Nat.ne_of_lt (Nat.lt_of_lt_of_le Fz0.lt (Nat.le_of_eq g352.symm)))])).keep Kq388 List.not_mem_nil).keep Kq396 (by simp [(Nat.ne_of_lt (Nat.lt_of_lt_of_le Fz0.lt (Nat.le_of_eq g352.symm)))]))
    have c411 : Fld Z T396.heap vz "java/time/Duration" "nanos" "I" (.int (0 : Int32)) := ((((((((Fz1.ext E352).keep Kq362 (by simp [(Nat.ne_of_lt (Nat.lt_of_lt_of_le Fz1.lt (Nat.le_of_eq g352.symm)))])).keep Kq365 (by simp [(Nat.ne_of_lt (Nat.lt_of_lt_of_le Fz1.lt (Nat.le_of_eq g352.symm)))])).keep Kq369 (by simp [(Nat.ne_of_lt (Nat.lt_of_lt_of_le Fz1.lt (Nat.le_of_eq g352.symm)))])).keep Kq372 List.not_mem_nil).keep Kq376 (by simp [(Nat.ne_of_lt (Nat.lt_of_lt_of_le Fz1.lt (Nat.le_of_eq g352.symm)))])).keep Kq388 List.not_mem_nil).keep Kq396 (by simp [(Nat.ne_of_lt (Nat.lt_of_lt_of_le Fz1.lt (Nat.le_of_eq g352.symm)))]))
    obtain ⟨cq408, kq408, q408a, q408b, q408c⟩ := isOf hZ388 rfl f396_1
    obtain ⟨_, _, ⟨T408, L408, k408, n408⟩, -, X408, ⟨Lc408, hQ408, l408, y408, z408⟩, st408⟩ := X396.virtualBack hx (y := (⟨"com/example/even_bucket/evenbucket/Decision", "allowed", "()Z"⟩ : MethodName)) (z := (⟨"com/example/even_bucket/evenbucket/Decision", "allowed", "()Z"⟩ : MethodName)) hown388 (mvT hZ388 (hw _ (List.mem_of_getElem? (i := 174) rfl))) (mvT hZ388 (hw _ (List.mem_of_getElem? (i := 175) rfl))) (notFace_of_selects (args := #[]) (mvT hZ388 (hw _ (List.mem_of_getElem? (i := 177) rfl)))) (mvT hZ388 (hw _ (List.mem_of_getElem? (i := 177) rfl))) (mvT hZ388 (hw _ (List.mem_of_getElem? (i := 176) rfl))) (by decide) (backOf (W := 0) (rm29 l Z a0 hw [] bb_396 (0 : Int64) (0 : Int32) vz T396.heap n0 (Nat.le_trans Z0 K406.1) f396_3 c409 c410 c411) hZ388 (hw _ (List.mem_of_getElem? (i := 178) rfl)) (hw _ (List.mem_of_getElem? (i := 62) rfl)) (by decide) (by decide)) q408a q408c (g := (mkF m 162 #[.val (.int p0), .val (.int p1), .val (.long q2), .second, .val (.long q3), .second, .val (.int p4), .val (.int p5), .val (.int cc), .val (.int rr), .val (.long pe), .second, .val (.int k1), .val (.int k2), .val (.ref b352), .val (.int ((((cc.toInt64) - (1 : Int64)) - (k1.toInt64)).toInt32)), .val (.int (((((cc.toInt64) - (1 : Int64)) - (k1.toInt64)) - (k2.toInt64)).toInt32)), .val (.int rm), .val (.ref bb_396)] [(.ref bb_396)])) rfl (by rw [hml]; rfl) (Steps.refl _) (argsL := []) (rest := []) (lenOf pd___Z rfl) rfl (by show 2 * 0 + _ ≤ _; exact Nat.le_of_eq rfl) (hb hby at_162) (fun _ _ => ⟨rfl, rfl, (by decide : 15 + 0 ≤ _), (by decide : 124 + 0 ≤ _)⟩)
    dsimp only [Pt.U, Pt.locs, Pt.cells, Pt.slots] at X408 l408 y408 z408 st408 hQ408
    subst l408 y408 z408
    obtain ⟨rfl, Nq408, e408⟩ := hQ408
    have N408 := Fr.app N396 Nq408
    obtain ⟨cq412, kq412, q412a, q412b, q412c⟩ := isOf hZ388 e408 f396_1
    obtain ⟨_, _, ⟨T412, L412, k412, n412⟩, -, X412, ⟨Lc412, hQ412, l412, y412, z412⟩, st412⟩ := X408.virtualBack hx (y := (⟨"com/example/even_bucket/evenbucket/Decision", "remaining", "()J"⟩ : MethodName)) (z := (⟨"com/example/even_bucket/evenbucket/Decision", "remaining", "()J"⟩ : MethodName)) hown388 (mvT hZ388 (hw _ (List.mem_of_getElem? (i := 184) rfl))) (mvT hZ388 (hw _ (List.mem_of_getElem? (i := 185) rfl))) (notFace_of_selects (args := #[]) (mvT hZ388 (hw _ (List.mem_of_getElem? (i := 187) rfl)))) (mvT hZ388 (hw _ (List.mem_of_getElem? (i := 187) rfl))) (mvT hZ388 (hw _ (List.mem_of_getElem? (i := 186) rfl))) (by decide) (backOf (W := 0) (rm31 l Z a0 hw [] bb_396 (((((cc.toInt64) - (1 : Int64)) - (k1.toInt64)) - (k2.toInt64)) - (1 : Int64)) T396.heap n0 (Nat.le_trans Z0 K406.1) f396_2) hZ388 (hw _ (List.mem_of_getElem? (i := 188) rfl)) (hw _ (List.mem_of_getElem? (i := 62) rfl)) (by decide) (by decide)) q412a q412c (g := (mkF m 170 #[.val (.int p0), .val (.int p1), .val (.long q2), .second, .val (.long q3), .second, .val (.int p4), .val (.int p5), .val (.int cc), .val (.int rr), .val (.long pe), .second, .val (.int k1), .val (.int k2), .val (.ref b352), .val (.int ((((cc.toInt64) - (1 : Int64)) - (k1.toInt64)).toInt32)), .val (.int (((((cc.toInt64) - (1 : Int64)) - (k1.toInt64)) - (k2.toInt64)).toInt32)), .val (.int rm), .val (.ref bb_396)] [(.ref bb_396)])) rfl (by rw [hml]; rfl) (Steps.refl _) (argsL := []) (rest := []) (lenOf pd___J rfl) rfl (by show 2 * 0 + _ ≤ _; exact Nat.le_of_eq rfl) (hb hby at_170) (fun _ _ => ⟨rfl, e408, (by decide : 15 + 0 ≤ _), (by decide : 124 + 0 ≤ _)⟩)
    dsimp only [Pt.U, Pt.locs, Pt.cells, Pt.slots] at X412 l412 y412 z412 st412 hQ412
    subst l412 y412 z412
    obtain ⟨rfl, Nq412, e412⟩ := hQ412
    have N412 := Fr.app N408 Nq412
    obtain ⟨fs, hrT, hrunT, hendT, hRW⟩ := X412.leaveW (hlocks := BodyLoose.notSynchronized Bd) hS388 (v := some (.int (1 : Int32))) (by rw [e412]; exact hk407) (fun h => by rw [Bd.returns] at h; cases h)
    refine ⟨_, _, S393 _ ?_, hrunT, hendT, _, _, rfl, ?_, hRW.1, hRW.2.1, hRW.2.2.1, hRW.2.2.2.mono (by decide) (by decide)⟩
    · show Steps p.tables e below (T391.setTop (mkF m 146 #[.val (.int p0), .val (.int p1), .val (.long q2), .second, .val (.long q3), .second, .val (.int p4), .val (.int p5), .val (.int cc), .val (.int rr), .val (.long pe), .second, .val (.int k1), .val (.int k2), .val (.ref b352), .val (.int ((((cc.toInt64) - (1 : Int64)) - (k1.toInt64)).toInt32)), .val (.int (((((cc.toInt64) - (1 : Int64)) - (k1.toInt64)) - (k2.toInt64)).toInt32)), .val (.int rm), .unset] [])) _
      refine XS.aload X391.here hx rfl (hb hby at_146) rfl rfl ?_
      show Steps p.tables e below (T391.setTop (mkF m 148 #[.val (.int p0), .val (.int p1), .val (.long q2), .second, .val (.long q3), .second, .val (.int p4), .val (.int p5), .val (.int cc), .val (.int rr), .val (.long pe), .second, .val (.int k1), .val (.int k2), .val (.ref b352), .val (.int ((((cc.toInt64) - (1 : Int64)) - (k1.toInt64)).toInt32)), .val (.int (((((cc.toInt64) - (1 : Int64)) - (k1.toInt64)) - (k2.toInt64)).toInt32)), .val (.int rm), .unset] [(.ref b352)])) _
      refine XS.lload X391.here hx rfl (hb hby at_148) rfl ?_
      show Steps p.tables e below (T391.setTop (mkF m 150 #[.val (.int p0), .val (.int p1), .val (.long q2), .second, .val (.long q3), .second, .val (.int p4), .val (.int p5), .val (.int cc), .val (.int rr), .val (.long pe), .second, .val (.int k1), .val (.int k2), .val (.ref b352), .val (.int ((((cc.toInt64) - (1 : Int64)) - (k1.toInt64)).toInt32)), .val (.int (((((cc.toInt64) - (1 : Int64)) - (k1.toInt64)) - (k2.toInt64)).toInt32)), .val (.int rm), .unset] [(.long q3), (.ref b352)])) _
      refine st396.trans ?_
      show Steps p.tables e below (T396.setTop (mkF m 153 #[.val (.int p0), .val (.int p1), .val (.long q2), .second, .val (.long q3), .second, .val (.int p4), .val (.int p5), .val (.int cc), .val (.int rr), .val (.long pe), .second, .val (.int k1), .val (.int k2), .val (.ref b352), .val (.int ((((cc.toInt64) - (1 : Int64)) - (k1.toInt64)).toInt32)), .val (.int (((((cc.toInt64) - (1 : Int64)) - (k1.toInt64)) - (k2.toInt64)).toInt32)), .val (.int rm), .unset] [(.ref bb_396)])) _
      refine XS.astore X396.here hx rfl (hb hby at_153) rfl rfl (l' := #[.val (.int p0), .val (.int p1), .val (.long q2), .second, .val (.long q3), .second, .val (.int p4), .val (.int p5), .val (.int cc), .val (.int rr), .val (.long pe), .second, .val (.int k1), .val (.int k2), .val (.ref b352), .val (.int ((((cc.toInt64) - (1 : Int64)) - (k1.toInt64)).toInt32)), .val (.int (((((cc.toInt64) - (1 : Int64)) - (k1.toInt64)) - (k2.toInt64)).toInt32)), .val (.int rm), .val (.ref bb_396)]) rfl ?_
      show Steps p.tables e below (T396.setTop (mkF m 155 #[.val (.int p0), .val (.int p1), .val (.long q2), .second, .val (.long q3), .second, .val (.int p4), .val (.int p5), .val (.int cc), .val (.int rr), .val (.long pe), .second, .val (.int k1), .val (.int k2), .val (.ref b352), .val (.int ((((cc.toInt64) - (1 : Int64)) - (k1.toInt64)).toInt32)), .val (.int (((((cc.toInt64) - (1 : Int64)) - (k1.toInt64)) - (k2.toInt64)).toInt32)), .val (.int rm), .val (.ref bb_396)] [])) _
      refine XS.iload X396.here hx rfl (hb hby at_155) rfl ?_
      show Steps p.tables e below (T396.setTop (mkF m 157 #[.val (.int p0), .val (.int p1), .val (.long q2), .second, .val (.long q3), .second, .val (.int p4), .val (.int p5), .val (.int cc), .val (.int rr), .val (.long pe), .second, .val (.int k1), .val (.int k2), .val (.ref b352), .val (.int ((((cc.toInt64) - (1 : Int64)) - (k1.toInt64)).toInt32)), .val (.int (((((cc.toInt64) - (1 : Int64)) - (k1.toInt64)) - (k2.toInt64)).toInt32)), .val (.int rm), .val (.ref bb_396)] [(.int rm)])) _
      refine XS.ifNo X396.here hx rfl (hb hby at_157) rfl (XT.i0_le_f hc146_394) ?_
      show Steps p.tables e below (T396.setTop (mkF m 160 #[.val (.int p0), .val (.int p1), .val (.long q2), .second, .val (.long q3), .second, .val (.int p4), .val (.int p5), .val (.int cc), .val (.int rr), .val (.long pe), .second, .val (.int k1), .val (.int k2), .val (.ref b352), .val (.int ((((cc.toInt64) - (1 : Int64)) - (k1.toInt64)).toInt32)), .val (.int (((((cc.toInt64) - (1 : Int64)) - (k1.toInt64)) - (k2.toInt64)).toInt32)), .val (.int rm), .val (.ref bb_396)] [])) _
      refine XS.aload X396.here hx rfl (hb hby at_160) rfl rfl ?_
      show Steps p.tables e below (T396.setTop (mkF m 162 #[.val (.int p0), .val (.int p1), .val (.long q2), .second, .val (.long q3), .second, .val (.int p4), .val (.int p5), .val (.int cc), .val (.int rr), .val (.long pe), .second, .val (.int k1), .val (.int k2), .val (.ref b352), .val (.int ((((cc.toInt64) - (1 : Int64)) - (k1.toInt64)).toInt32)), .val (.int (((((cc.toInt64) - (1 : Int64)) - (k1.toInt64)) - (k2.toInt64)).toInt32)), .val (.int rm), .val (.ref bb_396)] [(.ref bb_396)])) _
      refine st408.trans ?_
      show Steps p.tables e below (T408.setTop (mkF m 165 #[.val (.int p0), .val (.int p1), .val (.long q2), .second, .val (.long q3), .second, .val (.int p4), .val (.int p5), .val (.int cc), .val (.int rr), .val (.long pe), .second, .val (.int k1), .val (.int k2), .val (.ref b352), .val (.int ((((cc.toInt64) - (1 : Int64)) - (k1.toInt64)).toInt32)), .val (.int (((((cc.toInt64) - (1 : Int64)) - (k1.toInt64)) - (k2.toInt64)).toInt32)), .val (.int rm), .val (.ref bb_396)] [(.int (nar .boolean (f_iz (0 : Int64) (0 : Int32))))])) _
      refine XS.ifNo X408.here hx rfl (hb hby at_165) rfl (XT.i0_eq_f (by decide)) ?_
      show Steps p.tables e below (T408.setTop (mkF m 168 #[.val (.int p0), .val (.int p1), .val (.long q2), .second, .val (.long q3), .second, .val (.int p4), .val (.int p5), .val (.int cc), .val (.int rr), .val (.long pe), .second, .val (.int k1), .val (.int k2), .val (.ref b352), .val (.int ((((cc.toInt64) - (1 : Int64)) - (k1.toInt64)).toInt32)), .val (.int (((((cc.toInt64) - (1 : Int64)) - (k1.toInt64)) - (k2.toInt64)).toInt32)), .val (.int rm), .val (.ref bb_396)] [])) _
      refine XS.aload X408.here hx rfl (hb hby at_168) rfl rfl ?_
      show Steps p.tables e below (T408.setTop (mkF m 170 #[.val (.int p0), .val (.int p1), .val (.long q2), .second, .val (.long q3), .second, .val (.int p4), .val (.int p5), .val (.int cc), .val (.int rr), .val (.long pe), .second, .val (.int k1), .val (.int k2), .val (.ref b352), .val (.int ((((cc.toInt64) - (1 : Int64)) - (k1.toInt64)).toInt32)), .val (.int (((((cc.toInt64) - (1 : Int64)) - (k1.toInt64)) - (k2.toInt64)).toInt32)), .val (.int rm), .val (.ref bb_396)] [(.ref bb_396)])) _
      refine st412.trans ?_
      show Steps p.tables e below (T412.setTop (mkF m 173 #[.val (.int p0), .val (.int p1), .val (.long q2), .second, .val (.long q3), .second, .val (.int p4), .val (.int p5), .val (.int cc), .val (.int rr), .val (.long pe), .second, .val (.int k1), .val (.int k2), .val (.ref b352), .val (.int ((((cc.toInt64) - (1 : Int64)) - (k1.toInt64)).toInt32)), .val (.int (((((cc.toInt64) - (1 : Int64)) - (k1.toInt64)) - (k2.toInt64)).toInt32)), .val (.int rm), .val (.ref bb_396)] [(.long (((((cc.toInt64) - (1 : Int64)) - (k1.toInt64)) - (k2.toInt64)) - (1 : Int64)))])) _
      refine XS.iload X412.here hx rfl (hb hby at_173) rfl ?_
      show Steps p.tables e below (T412.setTop (mkF m 175 #[.val (.int p0), .val (.int p1), .val (.long q2), .second, .val (.long q3), .second, .val (.int p4), .val (.int p5), .val (.int cc), .val (.int rr), .val (.long pe), .second, .val (.int k1), .val (.int k2), .val (.ref b352), .val (.int ((((cc.toInt64) - (1 : Int64)) - (k1.toInt64)).toInt32)), .val (.int (((((cc.toInt64) - (1 : Int64)) - (k1.toInt64)) - (k2.toInt64)).toInt32)), .val (.int rm), .val (.ref bb_396)] [(.int rm), (.long (((((cc.toInt64) - (1 : Int64)) - (k1.toInt64)) - (k2.toInt64)) - (1 : Int64)))])) _
      refine XS.iconst X412.here hx rfl (hb hby at_175) ?_
      show Steps p.tables e below (T412.setTop (mkF m 176 #[.val (.int p0), .val (.int p1), .val (.long q2), .second, .val (.long q3), .second, .val (.int p4), .val (.int p5), .val (.int cc), .val (.int rr), .val (.long pe), .second, .val (.int k1), .val (.int k2), .val (.ref b352), .val (.int ((((cc.toInt64) - (1 : Int64)) - (k1.toInt64)).toInt32)), .val (.int (((((cc.toInt64) - (1 : Int64)) - (k1.toInt64)) - (k2.toInt64)).toInt32)), .val (.int rm), .val (.ref bb_396)] [(.int (1 : Int32)), (.int rm), (.long (((((cc.toInt64) - (1 : Int64)) - (k1.toInt64)) - (k2.toInt64)) - (1 : Int64)))])) _
      refine XS.isub X412.here hx rfl (hb hby at_176) rfl ?_
      show Steps p.tables e below (T412.setTop (mkF m 177 #[.val (.int p0), .val (.int p1), .val (.long q2), .second, .val (.long q3), .second, .val (.int p4), .val (.int p5), .val (.int cc), .val (.int rr), .val (.long pe), .second, .val (.int k1), .val (.int k2), .val (.ref b352), .val (.int ((((cc.toInt64) - (1 : Int64)) - (k1.toInt64)).toInt32)), .val (.int (((((cc.toInt64) - (1 : Int64)) - (k1.toInt64)) - (k2.toInt64)).toInt32)), .val (.int rm), .val (.ref bb_396)] [(.int (rm - (1 : Int32))), (.long (((((cc.toInt64) - (1 : Int64)) - (k1.toInt64)) - (k2.toInt64)) - (1 : Int64)))])) _
      refine XS.i2l X412.here hx rfl (hb hby at_177) rfl ?_
      show Steps p.tables e below (T412.setTop (mkF m 178 #[.val (.int p0), .val (.int p1), .val (.long q2), .second, .val (.long q3), .second, .val (.int p4), .val (.int p5), .val (.int cc), .val (.int rr), .val (.long pe), .second, .val (.int k1), .val (.int k2), .val (.ref b352), .val (.int ((((cc.toInt64) - (1 : Int64)) - (k1.toInt64)).toInt32)), .val (.int (((((cc.toInt64) - (1 : Int64)) - (k1.toInt64)) - (k2.toInt64)).toInt32)), .val (.int rm), .val (.ref bb_396)] [(.long ((rm - (1 : Int32)).toInt64)), (.long (((((cc.toInt64) - (1 : Int64)) - (k1.toInt64)) - (k2.toInt64)) - (1 : Int64)))])) _
      refine XT.lcmp X412.here hx rfl (hb hby at_178) rfl ?_
      show Steps p.tables e below (T412.setTop (mkF m 179 #[.val (.int p0), .val (.int p1), .val (.long q2), .second, .val (.long q3), .second, .val (.int p4), .val (.int p5), .val (.int cc), .val (.int rr), .val (.long pe), .second, .val (.int k1), .val (.int k2), .val (.ref b352), .val (.int ((((cc.toInt64) - (1 : Int64)) - (k1.toInt64)).toInt32)), .val (.int (((((cc.toInt64) - (1 : Int64)) - (k1.toInt64)) - (k2.toInt64)).toInt32)), .val (.int rm), .val (.ref bb_396)] [(.int (XT.cmpL (((((cc.toInt64) - (1 : Int64)) - (k1.toInt64)) - (k2.toInt64)) - (1 : Int64)) ((rm - (1 : Int32)).toInt64)))])) _
      refine XS.ifNo X412.here hx rfl (hb hby at_179) rfl (XT.ll_ne_f (by have h0 := hc146_394; rw [Int32.lt_iff_toInt_lt, show (0 : Int32).toInt = 0 from rfl] at h0; have o : (1 : Int64).toInt = 1 := rfl; have o2 : (1 : Int32).toInt = 1 := rfl; rw [← Int64.toInt_inj, Jvm.Kit.i64_sub (by omega) (by omega), hX2, Jvm.Kit.i64_of_i32, Jvm.Kit.i32_sub (by omega) (by have := rm.toInt_lt; omega), hrm, o, o2])) ?_
      show Steps p.tables e below (T412.setTop (mkF m 182 #[.val (.int p0), .val (.int p1), .val (.long q2), .second, .val (.long q3), .second, .val (.int p4), .val (.int p5), .val (.int cc), .val (.int rr), .val (.long pe), .second, .val (.int k1), .val (.int k2), .val (.ref b352), .val (.int ((((cc.toInt64) - (1 : Int64)) - (k1.toInt64)).toInt32)), .val (.int (((((cc.toInt64) - (1 : Int64)) - (k1.toInt64)) - (k2.toInt64)).toInt32)), .val (.int rm), .val (.ref bb_396)] [])) _
      refine XS.iconst X412.here hx rfl (hb hby at_182) ?_
      show Steps p.tables e below (T412.setTop (mkF m 183 #[.val (.int p0), .val (.int p1), .val (.long q2), .second, .val (.long q3), .second, .val (.int p4), .val (.int p5), .val (.int cc), .val (.int rr), .val (.long pe), .second, .val (.int k1), .val (.int k2), .val (.ref b352), .val (.int ((((cc.toInt64) - (1 : Int64)) - (k1.toInt64)).toInt32)), .val (.int (((((cc.toInt64) - (1 : Int64)) - (k1.toInt64)) - (k2.toInt64)).toInt32)), .val (.int rm), .val (.ref bb_396)] [(.int (1 : Int32))])) _
      refine XS.goto X412.here hx rfl (pc0 := 183) (pc' := 187) rfl (hb hby at_183) (by decide) (by decide) ?_
      show Steps p.tables e below (T412.setTop (mkF m 187 #[.val (.int p0), .val (.int p1), .val (.long q2), .second, .val (.long q3), .second, .val (.int p4), .val (.int p5), .val (.int cc), .val (.int rr), .val (.long pe), .second, .val (.int k1), .val (.int k2), .val (.ref b352), .val (.int ((((cc.toInt64) - (1 : Int64)) - (k1.toInt64)).toInt32)), .val (.int (((((cc.toInt64) - (1 : Int64)) - (k1.toInt64)) - (k2.toInt64)).toInt32)), .val (.int rm), .val (.ref bb_396)] [(.int (1 : Int32))])) _
      exact retN X412 hx (t := .boolean) Bd.returns (by simp) (hb hby at_187) hrT
    · show Q0 Z p0 p1 q2 q3 p4 p5 vz h0 n0 _ T412.heap _
      rw [e412]
      exact ⟨rfl, N412⟩
  case neg =>
    have c413 : Exa Z T388.heap b352 "com/example/even_bucket/evenbucket/IntervalBucket" := (c387.keep Kq388)
    have c415 : Fld Z T388.heap b352 "com/example/even_bucket/evenbucket/IntervalBucket" "capacity" "I" (.int cc) := (f376_0.keep Kq388 List.not_mem_nil)
    have c416 : Fld Z T388.heap b352 "com/example/even_bucket/evenbucket/IntervalBucket" "refill" "I" (.int rr) := (f376_1.keep Kq388 List.not_mem_nil)
    have c417 : Fld Z T388.heap b352 "com/example/even_bucket/evenbucket/IntervalBucket" "periodMillis" "J" (.long pe) := (f376_2.keep Kq388 List.not_mem_nil)
    have c418 : Fld Z T388.heap b352 "com/example/even_bucket/evenbucket/IntervalBucket" "permits" "J" (.long ((((cc.toInt64) - (1 : Int64)) - (k1.toInt64)) - (k2.toInt64))) := (f376_3.keep Kq388 List.not_mem_nil)
    have c419 : Fld Z T388.heap b352 "com/example/even_bucket/evenbucket/IntervalBucket" "origin" "J" (.long q3) := (f376_4.keep Kq388 List.not_mem_nil)
    have c420 : Fld Z T388.heap b352 "com/example/even_bucket/evenbucket/IntervalBucket" "newest" "J" (.long q3) := (f376_5.keep Kq388 List.not_mem_nil)
    have c421 : Fld Z T388.heap b352 "com/example/even_bucket/evenbucket/IntervalBucket" "admitted" "Z" (.int (1 : Int32)) := (f376_6.keep Kq388 List.not_mem_nil)
    have c422 : Fld Z T388.heap b352 "com/example/even_bucket/evenbucket/IntervalBucket" "decidedAt" "J" (.long q3) := (f376_7.keep Kq388 List.not_mem_nil)
    obtain ⟨cq414, kq414, q414a, q414b, q414c⟩ := isOf hZ388 e391 c413
    obtain ⟨_, _, ⟨T414, L414, k414, n414⟩, -, X414, hS414, gr414, ⟨Lc414, hQ414, l414, y414, z414⟩, st414⟩ := X391.virtualBackS hx (y := (⟨"com/example/even_bucket/evenbucket/IntervalBucket", "tryAcquire", "(J)Lcom/example/even_bucket/evenbucket/Decision;"⟩ : MethodName)) (z := (⟨"com/example/even_bucket/evenbucket/IntervalBucket", "tryAcquire", "(J)Lcom/example/even_bucket/evenbucket/Decision;"⟩ : MethodName)) hown388 (mvT hZ388 (hw _ (List.mem_of_getElem? (i := 24) rfl))) (mvT hZ388 (hw _ (List.mem_of_getElem? (i := 25) rfl))) (notFace_of_selects (args := #[]) (mvT hZ388 (hw _ (List.mem_of_getElem? (i := 27) rfl)))) (mvT hZ388 (hw _ (List.mem_of_getElem? (i := 27) rfl))) (mvT hZ388 (hw _ (List.mem_of_getElem? (i := 26) rfl))) (by decide) (backOfS (W := 0) (rmtC l Z a0 hw [] b352 q3 cc rr pe ((((cc.toInt64) - (1 : Int64)) - (k1.toInt64)) - (k2.toInt64)) T388.heap n0 (Nat.le_trans Z0 K389.1) c415 c416 c417 c418 c419 c420 c421 c422 c413 ge_b352 hpe hrr (own_B hrr ⟨by omega, by omega⟩) (Int64.toInt_inj.mp (by have := hc146_394; rw [Int32.lt_iff_toInt_lt, show (0 : Int32).toInt = 0 from rfl] at this; rw [show (0 : Int64).toInt = 0 from rfl]; omega))) hZ388 (hw _ (List.mem_of_getElem? (i := 28) rfl)) (hw _ (List.mem_of_getElem? (i := 11) rfl)) (by decide) (by decide)) q414a q414c (g := (mkF m 150 #[.val (.int p0), .val (.int p1), .val (.long q2), .second, .val (.long q3), .second, .val (.int p4), .val (.int p5), .val (.int cc), .val (.int rr), .val (.long pe), .second, .val (.int k1), .val (.int k2), .val (.ref b352), .val (.int ((((cc.toInt64) - (1 : Int64)) - (k1.toInt64)).toInt32)), .val (.int (((((cc.toInt64) - (1 : Int64)) - (k1.toInt64)) - (k2.toInt64)).toInt32)), .val (.int rm), .unset] [(.long q3), (.ref b352)])) rfl (by rw [hml]; rfl) (Steps.refl _) (argsL := [(.long q3)]) (rest := []) (lenOf pd__J_Lcom_example_even_bucket_evenbucket_Decision_ rfl) rfl (by show 2 * 0 + _ ≤ _; exact Nat.le_of_eq rfl) (hb hby at_150) (fun _ _ => ⟨rfl, e391, (by decide : 14 + 5 ≤ _), (by decide : 121 + 51 ≤ _)⟩)
    dsimp only [Pt.U, Pt.locs, Pt.cells, Pt.slots] at X414 l414 y414 z414 st414 hQ414
    subst l414 y414 z414
    dsimp only [Pt.U, Pt.locs, Pt.cells, Pt.slots] at hS414 gr414
    obtain ⟨bb_414, dd_414, rfl, Nq414, Kq414, f414_0, f414_1, f414_2, f414_3, f414_4, f414_5, f414_6⟩ := hQ414
    have K423 : Keep h0 T414.heap [] := K389.trans Kq414 (fun x hx => by cases List.mem_singleton.mp hx; exact Or.inr sz_b352)
    have hk424 : T388.heap.size ≤ T414.heap.size := Nat.le_trans (Nat.le_refl _) Kq414.1
    have N414 := Fr.app N391 Nq414
    have hkq414 : T388.heap.size ≤ T391.heap.size := by rw [e391]; exact (Nat.le_refl _)
    obtain ⟨X414r, hS414r, hZ414, hown414⟩ := rebS hS388 hkq414 X414 hS414 gr414 hZ388 hown388
    clear hS414
    have hS414 := hS414r
    have ge_bb_414 : n0 ≤ bb_414 := Nat.le_trans (Nat.le_trans Z0 K389.1) f414_0
    have sz_bb_414 : h0.size ≤ bb_414 := Nat.le_trans K389.1 f414_0
    obtain ⟨cq425, kq425, q425a, q425b, q425c⟩ := isOf hZ414 rfl f414_1
    obtain ⟨_, _, ⟨T425, L425, k425, n425⟩, -, X425, ⟨Lc425, hQ425, l425, y425, z425⟩, st425⟩ := X414r.virtualBack hx (y := (⟨"com/example/even_bucket/evenbucket/Decision", "allowed", "()Z"⟩ : MethodName)) (z := (⟨"com/example/even_bucket/evenbucket/Decision", "allowed", "()Z"⟩ : MethodName)) hown414 (mvT hZ414 (hw _ (List.mem_of_getElem? (i := 174) rfl))) (mvT hZ414 (hw _ (List.mem_of_getElem? (i := 175) rfl))) (notFace_of_selects (args := #[]) (mvT hZ414 (hw _ (List.mem_of_getElem? (i := 177) rfl)))) (mvT hZ414 (hw _ (List.mem_of_getElem? (i := 177) rfl))) (mvT hZ414 (hw _ (List.mem_of_getElem? (i := 176) rfl))) (by decide) (backOf (W := 0) (rm29 l Z a0 hw [] bb_414 (f_s (pe - (0 : Int64))) (f_n (pe - (0 : Int64))) dd_414 T414.heap n0 (Nat.le_trans Z0 K423.1) f414_3 f414_4 f414_5 f414_6) hZ414 (hw _ (List.mem_of_getElem? (i := 178) rfl)) (hw _ (List.mem_of_getElem? (i := 62) rfl)) (by decide) (by decide)) q425a q425c (g := (mkF m 190 #[.val (.int p0), .val (.int p1), .val (.long q2), .second, .val (.long q3), .second, .val (.int p4), .val (.int p5), .val (.int cc), .val (.int rr), .val (.long pe), .second, .val (.int k1), .val (.int k2), .val (.ref b352), .val (.int ((((cc.toInt64) - (1 : Int64)) - (k1.toInt64)).toInt32)), .val (.int (((((cc.toInt64) - (1 : Int64)) - (k1.toInt64)) - (k2.toInt64)).toInt32)), .val (.int rm), .val (.ref bb_414)] [(.ref bb_414)])) rfl (by rw [hml]; rfl) (Steps.refl _) (argsL := []) (rest := []) (lenOf pd___Z rfl) rfl (by show 2 * 0 + _ ≤ _; exact Nat.le_of_eq rfl) (hb hby at_190) (fun _ _ => ⟨rfl, rfl, (by decide : 19 + 0 ≤ _), (by decide : 172 + 0 ≤ _)⟩)
    dsimp only [Pt.U, Pt.locs, Pt.cells, Pt.slots] at X425 l425 y425 z425 st425 hQ425
    subst l425 y425 z425
    obtain ⟨rfl, Nq425, e425⟩ := hQ425
    have N425 := Fr.app N414 Nq425
    obtain ⟨fs, hrT, hrunT, hendT, hRW⟩ := X425.leaveW (hlocks := BodyLoose.notSynchronized Bd) hS414 (v := some (.int (1 : Int32))) (by rw [e425]; exact (Nat.le_refl _)) (fun h => by rw [Bd.returns] at h; cases h)
    refine ⟨_, _, S393 _ ?_, hrunT, hendT, _, _, rfl, ?_, hRW.1, hRW.2.1, hRW.2.2.1, hRW.2.2.2.mono (by decide) (by decide)⟩
    · show Steps p.tables e below (T391.setTop (mkF m 146 #[.val (.int p0), .val (.int p1), .val (.long q2), .second, .val (.long q3), .second, .val (.int p4), .val (.int p5), .val (.int cc), .val (.int rr), .val (.long pe), .second, .val (.int k1), .val (.int k2), .val (.ref b352), .val (.int ((((cc.toInt64) - (1 : Int64)) - (k1.toInt64)).toInt32)), .val (.int (((((cc.toInt64) - (1 : Int64)) - (k1.toInt64)) - (k2.toInt64)).toInt32)), .val (.int rm), .unset] [])) _
      refine XS.aload X391.here hx rfl (hb hby at_146) rfl rfl ?_
      show Steps p.tables e below (T391.setTop (mkF m 148 #[.val (.int p0), .val (.int p1), .val (.long q2), .second, .val (.long q3), .second, .val (.int p4), .val (.int p5), .val (.int cc), .val (.int rr), .val (.long pe), .second, .val (.int k1), .val (.int k2), .val (.ref b352), .val (.int ((((cc.toInt64) - (1 : Int64)) - (k1.toInt64)).toInt32)), .val (.int (((((cc.toInt64) - (1 : Int64)) - (k1.toInt64)) - (k2.toInt64)).toInt32)), .val (.int rm), .unset] [(.ref b352)])) _
      refine XS.lload X391.here hx rfl (hb hby at_148) rfl ?_
      show Steps p.tables e below (T391.setTop (mkF m 150 #[.val (.int p0), .val (.int p1), .val (.long q2), .second, .val (.long q3), .second, .val (.int p4), .val (.int p5), .val (.int cc), .val (.int rr), .val (.long pe), .second, .val (.int k1), .val (.int k2), .val (.ref b352), .val (.int ((((cc.toInt64) - (1 : Int64)) - (k1.toInt64)).toInt32)), .val (.int (((((cc.toInt64) - (1 : Int64)) - (k1.toInt64)) - (k2.toInt64)).toInt32)), .val (.int rm), .unset] [(.long q3), (.ref b352)])) _
      refine st414.trans ?_
      show Steps p.tables e below (T414.setTop (mkF m 153 #[.val (.int p0), .val (.int p1), .val (.long q2), .second, .val (.long q3), .second, .val (.int p4), .val (.int p5), .val (.int cc), .val (.int rr), .val (.long pe), .second, .val (.int k1), .val (.int k2), .val (.ref b352), .val (.int ((((cc.toInt64) - (1 : Int64)) - (k1.toInt64)).toInt32)), .val (.int (((((cc.toInt64) - (1 : Int64)) - (k1.toInt64)) - (k2.toInt64)).toInt32)), .val (.int rm), .unset] [(.ref bb_414)])) _
      refine XS.astore X414r.here hx rfl (hb hby at_153) rfl rfl (l' := #[.val (.int p0), .val (.int p1), .val (.long q2), .second, .val (.long q3), .second, .val (.int p4), .val (.int p5), .val (.int cc), .val (.int rr), .val (.long pe), .second, .val (.int k1), .val (.int k2), .val (.ref b352), .val (.int ((((cc.toInt64) - (1 : Int64)) - (k1.toInt64)).toInt32)), .val (.int (((((cc.toInt64) - (1 : Int64)) - (k1.toInt64)) - (k2.toInt64)).toInt32)), .val (.int rm), .val (.ref bb_414)]) rfl ?_
      show Steps p.tables e below (T414.setTop (mkF m 155 #[.val (.int p0), .val (.int p1), .val (.long q2), .second, .val (.long q3), .second, .val (.int p4), .val (.int p5), .val (.int cc), .val (.int rr), .val (.long pe), .second, .val (.int k1), .val (.int k2), .val (.ref b352), .val (.int ((((cc.toInt64) - (1 : Int64)) - (k1.toInt64)).toInt32)), .val (.int (((((cc.toInt64) - (1 : Int64)) - (k1.toInt64)) - (k2.toInt64)).toInt32)), .val (.int rm), .val (.ref bb_414)] [])) _
      refine XS.iload X414r.here hx rfl (hb hby at_155) rfl ?_
      show Steps p.tables e below (T414.setTop (mkF m 157 #[.val (.int p0), .val (.int p1), .val (.long q2), .second, .val (.long q3), .second, .val (.int p4), .val (.int p5), .val (.int cc), .val (.int rr), .val (.long pe), .second, .val (.int k1), .val (.int k2), .val (.ref b352), .val (.int ((((cc.toInt64) - (1 : Int64)) - (k1.toInt64)).toInt32)), .val (.int (((((cc.toInt64) - (1 : Int64)) - (k1.toInt64)) - (k2.toInt64)).toInt32)), .val (.int rm), .val (.ref bb_414)] [(.int rm)])) _
      refine XS.ifYes X414r.here hx rfl (pc0 := 157) (pc' := 188) rfl (hb hby at_157) rfl (XT.i0_le_t hc146_394) (by decide) (by decide) ?_
      show Steps p.tables e below (T414.setTop (mkF m 188 #[.val (.int p0), .val (.int p1), .val (.long q2), .second, .val (.long q3), .second, .val (.int p4), .val (.int p5), .val (.int cc), .val (.int rr), .val (.long pe), .second, .val (.int k1), .val (.int k2), .val (.ref b352), .val (.int ((((cc.toInt64) - (1 : Int64)) - (k1.toInt64)).toInt32)), .val (.int (((((cc.toInt64) - (1 : Int64)) - (k1.toInt64)) - (k2.toInt64)).toInt32)), .val (.int rm), .val (.ref bb_414)] [])) _
      refine XS.aload X414r.here hx rfl (hb hby at_188) rfl rfl ?_
      show Steps p.tables e below (T414.setTop (mkF m 190 #[.val (.int p0), .val (.int p1), .val (.long q2), .second, .val (.long q3), .second, .val (.int p4), .val (.int p5), .val (.int cc), .val (.int rr), .val (.long pe), .second, .val (.int k1), .val (.int k2), .val (.ref b352), .val (.int ((((cc.toInt64) - (1 : Int64)) - (k1.toInt64)).toInt32)), .val (.int (((((cc.toInt64) - (1 : Int64)) - (k1.toInt64)) - (k2.toInt64)).toInt32)), .val (.int rm), .val (.ref bb_414)] [(.ref bb_414)])) _
      refine st425.trans ?_
      show Steps p.tables e below (T425.setTop (mkF m 193 #[.val (.int p0), .val (.int p1), .val (.long q2), .second, .val (.long q3), .second, .val (.int p4), .val (.int p5), .val (.int cc), .val (.int rr), .val (.long pe), .second, .val (.int k1), .val (.int k2), .val (.ref b352), .val (.int ((((cc.toInt64) - (1 : Int64)) - (k1.toInt64)).toInt32)), .val (.int (((((cc.toInt64) - (1 : Int64)) - (k1.toInt64)) - (k2.toInt64)).toInt32)), .val (.int rm), .val (.ref bb_414)] [(.int (nar .boolean (f_iz (f_s (pe - (0 : Int64))) (f_n (pe - (0 : Int64))))))])) _
      refine XS.ifNo X425.here hx rfl (hb hby at_193) rfl (XT.i0_ne_f (by have e : f_iz (f_s (pe - (0 : Int64))) (f_n (pe - (0 : Int64))) = 0 := (by unfold f_iz; rw [if_neg (own_cr (by rw [Int64.sub_zero]; exact hpe))]); rw [e]; decide)) ?_
      show Steps p.tables e below (T425.setTop (mkF m 196 #[.val (.int p0), .val (.int p1), .val (.long q2), .second, .val (.long q3), .second, .val (.int p4), .val (.int p5), .val (.int cc), .val (.int rr), .val (.long pe), .second, .val (.int k1), .val (.int k2), .val (.ref b352), .val (.int ((((cc.toInt64) - (1 : Int64)) - (k1.toInt64)).toInt32)), .val (.int (((((cc.toInt64) - (1 : Int64)) - (k1.toInt64)) - (k2.toInt64)).toInt32)), .val (.int rm), .val (.ref bb_414)] [])) _
      refine XS.iconst X425.here hx rfl (hb hby at_196) ?_
      show Steps p.tables e below (T425.setTop (mkF m 197 #[.val (.int p0), .val (.int p1), .val (.long q2), .second, .val (.long q3), .second, .val (.int p4), .val (.int p5), .val (.int cc), .val (.int rr), .val (.long pe), .second, .val (.int k1), .val (.int k2), .val (.ref b352), .val (.int ((((cc.toInt64) - (1 : Int64)) - (k1.toInt64)).toInt32)), .val (.int (((((cc.toInt64) - (1 : Int64)) - (k1.toInt64)) - (k2.toInt64)).toInt32)), .val (.int rm), .val (.ref bb_414)] [(.int (1 : Int32))])) _
      refine XS.goto X425.here hx rfl (pc0 := 197) (pc' := 201) rfl (hb hby at_197) (by decide) (by decide) ?_
      show Steps p.tables e below (T425.setTop (mkF m 201 #[.val (.int p0), .val (.int p1), .val (.long q2), .second, .val (.long q3), .second, .val (.int p4), .val (.int p5), .val (.int cc), .val (.int rr), .val (.long pe), .second, .val (.int k1), .val (.int k2), .val (.ref b352), .val (.int ((((cc.toInt64) - (1 : Int64)) - (k1.toInt64)).toInt32)), .val (.int (((((cc.toInt64) - (1 : Int64)) - (k1.toInt64)) - (k2.toInt64)).toInt32)), .val (.int rm), .val (.ref bb_414)] [(.int (1 : Int32))])) _
      exact retN X425 hx (t := .boolean) Bd.returns (by simp) (hb hby at_201) hrT
    · show Q0 Z p0 p1 q2 q3 p4 p5 vz h0 n0 _ T425.heap _
      rw [e425]
      exact ⟨rfl, N425⟩
theorem own_fldL {args : Array Value} {s : State} {t : Term} {C n d : String} {b : Addr} {k : Int64} (ev : t.eval args s none [] s = some (.ref b)) (h : (Jvm.Cond.eq (.field t C n d) (.long k)).value args s none s [] = some true) : Fld s s.heap b C n d (.long k) := by
  have e := fld_at (C := C) (n := n) (dd := d) ev
  obtain ⟨x, y, h1, h2, k1, -⟩ := cmp_v (Or.inl h)
  cases h2
  obtain ⟨z, rfl⟩ : ∃ z, x = .long z := by cases x <;> simp [Kin, Value.isRef] at k1 ⊢
  have q : z = k := gotT (eq_L h1 (long_at k)) h
  subst q
  exact Fld.start (e.symm.trans h1)
set_option maxRecDepth 65536 in
set_option maxHeartbeats 40000000 in
theorem comes_1 {Post : Tables → Env → Array Value → State → Outcome → State → Prop} (hpost : ∀ tb e args s v u, (limb_1_1.after args s (.returned v) u = true ∧ limb_1_2.after args s (.returned v) u = true ∧ True) → ReturnedEndW s (.returned v) u (Jvm.fieldLocs frame_1_writes args s ++ Jvm.arrayLocs frame_1_arrays args s ++ Jvm.staticLocs frame_1_statics s) 40 1216 → Post tb e args s (.returned v) u) :
    ArmFor flags0 classFile x code maxLocals ret World_1 tables_1 room_1 Calls_1 rest_1 Pre_1 Post := by
  intro l hfl _ _ p e ha hc hk s m args below hf hA hF happ hP
  obtain ⟨hcalls, hrest, hpre⟩ := hP
  obtain ⟨-, -, -, hnamed, -, -, -, hat⟩ := (Spec.applies_iff hf).mp happ
  obtain ⟨hg, hn⟩ := and_e (Cond.before_iff.mp (show (Jvm.Cond.and given_1 narrow_1).before args s = true from hpre))
  obtain ⟨gc, gr0⟩ := and_e hg
  obtain ⟨ga0, gr1⟩ := and_e gr0
  obtain ⟨ga1, gr2⟩ := and_e gr1
  obtain ⟨ga2, gr3⟩ := and_e gr2
  obtain ⟨ga3, gr4⟩ := and_e gr3
  obtain ⟨ga4, gr5⟩ := and_e gr4
  have ga5 := gr5
  obtain ⟨w0, w1, w2, w3, w4, w5, rfl⟩ : ∃ w0 w1 w2 w3 w4 w5 : Value, args = #[w0, w1, w2, w3, w4, w5] := by
    have hs : args.size = 6 := by simpa [Cond.value, given_1] using gc
    obtain ⟨L⟩ := args
    match L, hs with
    | [w0, w1, w2, w3, w4, w5], _ => exact ⟨w0, w1, w2, w3, w4, w5, rfl⟩
  have hw := fun d (hd : d ∈ tables_1) => atoms_spec (ws := Jvm.Cond.code x code maxLocals ret :: tables_1) hat d (List.mem_cons_of_mem _ hd)
  have hfit : Fit s := fun {y c} hc i hi => by
    obtain ⟨ha, rfl⟩ := Array.getElem?_eq_some_iff.mp hc
    have q := List.all_eq_true.mp ((Array.all_eq_true_iff_forall_mem.mp hF) _ (Array.getElem_mem ha)) i (List.mem_range.mpr hi)
    simpa [Array.getElem?_eq_getElem hi] using q
  obtain ⟨hsets, hown0⟩ := atoms_of _ (rest_1_c_eq ▸ (show rest_1_c.before _ s = true from hrest))
  obtain ⟨i0, ei0⟩ := is_v ga0
  obtain rfl : w0 = (.int i0) := Option.some.inj ei0
  obtain ⟨i1, ei1⟩ := is_v ga1
  obtain rfl : w1 = (.int i1) := Option.some.inj ei1
  obtain ⟨i2, ei2⟩ := isL_v ga2
  obtain rfl : w2 = (.long i2) := Option.some.inj ei2
  obtain ⟨i3, ei3⟩ := isL_v ga3
  obtain rfl : w3 = (.long i3) := Option.some.inj ei3
  obtain ⟨i4, ei4⟩ := is_v ga4
  obtain rfl : w4 = (.int i4) := Option.some.inj ei4
  obtain ⟨i5, ei5⟩ := is_v ga5
  obtain rfl : w5 = (.int i5) := Option.some.inj ei5
  obtain ⟨vz, evz⟩ := exa_v (Cond.before_iff.mp (hsets _ (List.mem_of_getElem? (i := 2) rfl)))
  have Sz := Sta.start evz (Or.inl (hsets _ (List.mem_of_getElem? (i := 1) rfl)))
  have Ez := Exa.start evz (Cond.before_iff.mp (hsets _ (List.mem_of_getElem? (i := 2) rfl)))
  have Fz0 := own_fldL evz (Cond.before_iff.mp (hsets _ (List.mem_of_getElem? (i := 3) rfl)))
  have Fz1 := own_fld evz (Term.int_eval _) (Or.inl ⟨_, rfl⟩) (Cond.before_iff.mp (hsets _ (List.mem_of_getElem? (i := 4) rfl)))
  obtain ⟨n, o, h1, h2, h3, _, L, rfl, ⟨rfl, N⟩, hq⟩ := rm0 l s _ hw tables_1 i0 i1 i2 i3 i4 i5 vz s.heap s.heap.size (Nat.le_refl _) Sz Ez Fz0 Fz1 p e ha hc hk s m _ below hf ((Spec.applies_iff_loose hf).mp happ).1 ⟨rfl, State.Warmed39.refl s, rfl⟩ trivial
  refine ⟨n, _, h1, h2, h3, hpost _ _ _ _ _ _ ⟨Cond.after_iff.mpr rfl, Cond.after_iff.mpr (eq_i res_at (Term.int_eval (1)) rfl), trivial⟩ ⟨hq.1, hq.2.1, hq.2.2.1, (hq.2.2.2.sift fun y hy => Or.inr (N y hy)).mono (by decide) (by decide)⟩⟩
theorem main_1_1 : Claimed_1_1 := comes_1 fun _ _ _ _ _ _ h hF => ⟨h.1, hF⟩
theorem main_1_2 : Claimed_1_2 := comes_1 fun _ _ _ _ _ _ h hF => ⟨h.2.1, hF⟩
end Jvm.Pilot.@@N@@
namespace Jvm.Pilot.@@N@@
open Jvm Jvm.ClassFile Sem Op Lib Jvm.Free Jvm.Stand Jvm.Pilot.@@N@@.Jvm.D
/-! MADE BY PROGRAM (witnessworld.py) out of the Statement's table words and the real class files: 25 classes; the members and pool entries that the words name. The judged class is class 1, her method 1. -/
namespace start1
open Jvm.ClassFile
def u (s : String) : CpInfo := .utf8 (stringToUtf16 s)
/-- a pool by its gaps: so many unusable entries, then the entry; so many at the end -/
def gap : Nat → List CpInfo → List CpInfo
  | 0, r => r
  | n + 1, r => .unusable :: gap n r
def poolList (es : List (Nat × CpInfo)) (last : Nat) : List CpInfo := es.foldr (fun e r => gap e.1 (e.2 :: r)) (gap last [])
def pool (es : List (Nat × CpInfo)) (last : Nat) : Array CpInfo := ⟨poolList es last⟩
def fileOf (pool : Array CpInfo) (this : Nat) (attrs : Array Attribute := #[]) (ms : Array MethodInfo := #[]) (fl : Nat := 33) (sup : Nat := 0) (ifs : Array Nat := #[]) (fds : Array FieldInfo := #[]) : ClassFile where
  minorVersion := 0
  majorVersion := 65
  constantPool := pool
  accessFlags := fl
  thisClass := this
  superClass := sup
  interfaces := ifs
  fields := fds
  methods := ms
  attributes := attrs
def plain (name : String) (sup : Option ClassId) : Class where
  name := name
  kind := .ordinary
  loader := none
  accessFlags := 33
  super := sup
  interfaces := #[]
  cf := none
  fields := #[]
  methods := #[]
  instanceTypes := #[]
  staticTypes := #[]
  resolved := #[]
  callSites := []
  init := .initialized
  statics := none
  mirror := none

def pool0 : Array CpInfo := pool [(5, u "<init>"), (0, u "()V"), (1, .class_ 10), (1, u "java/lang/Object")] 113

def k0c0 : Code := { maxStack := 0, maxLocals := 1, code := object_method_1_code, exceptionTable := #[], attributes := #[] }
def k0m0 : Method := { name := "<init>", desc := "()V", sig := { parameters := [], returnType := none }, accessFlags := 1, code := some k0c0 }
/-- java/lang/Object -/
def k0 : Class := { plain "java/lang/Object" none with
  accessFlags := 33
  interfaces := #[]
  cf := some (fileOf pool0 8 #[] #[{ accessFlags := 1, nameIndex := 5, descriptorIndex := 6, attributes := #[] }] 33 0 #[] #[])
  fields := #[]
  methods := #[k0m0]
  instanceTypes := #[]
  staticTypes := #[]
  resolved := Array.replicate 124 none
  statics := none }

def pool1 : Array CpInfo := pool [(2, .class_ 4), (1, u "java/lang/Object"), (0, u "<init>"), (0, u "()V"), (0, .integer 2147483647), (0, .methodref 9 10), (0, .class_ 11), (0, .nameAndType 12 13), (0, u "java/lang/Math"), (0, u "max"), (0, u "(II)I"), (2, .long 9223372036854775807), (1, .methodref 9 19), (0, .nameAndType 12 20), (0, u "(JJ)J"), (0, .class_ 22), (0, u "com/example/even_bucket/evenbucket/IntervalBucket"), (0, .methodref 21 24), (0, .nameAndType 5 25), (0, u "(IIJ)V"), (0, .methodref 21 27), (0, .nameAndType 28 29), (0, u "tryAcquire"), (0, u "(J)Lcom/example/even_bucket/evenbucket/Decision;"), (0, .methodref 21 31), (0, .nameAndType 32 33), (0, u "recordAtLatestDecision"), (0, u "(I)V"), (0, .methodref 21 35), (0, .nameAndType 36 37), (0, u "moment"), (0, u "()Lcom/example/even_bucket/evenbucket/Admissions$Moment;"), (0, .methodref 39 40), (0, .class_ 41), (0, .nameAndType 42 43), (0, u "com/example/even_bucket/evenbucket/Admissions$Moment"), (0, u "free"), (0, u "()I"), (0, .methodref 45 46), (0, .class_ 47), (0, .nameAndType 48 49), (0, u "com/example/even_bucket/evenbucket/Decision"), (0, u "allowed"), (0, u "()Z"), (0, .methodref 45 51), (0, .nameAndType 52 53), (0, u "remaining"), (0, u "()J"), (0, .class_ 55), (0, u "com/example/even_bucket/evenbucket/IntervalBucketRecordAtLatestDecisionPinLaw"), (2, u "law"), (0, u "(IIJJII)Z")] 7

def k1m0 : Method := { name := "<init>", desc := "()V", sig := { parameters := [], returnType := none }, accessFlags := 1, code := none }
def k1c1 : Code := { maxStack := 6, maxLocals := 19, code := code, exceptionTable := #[], attributes := #[] }
def k1m1 : Method := { name := "law", desc := "(IIJJII)Z", sig := { parameters := [.int, .int, .long, .long, .int, .int], returnType := some .boolean }, accessFlags := 9, code := some k1c1 }
/-- com/example/even_bucket/evenbucket/IntervalBucketRecordAtLatestDecisionPinLaw -/
def k1 : Class := { plain "com/example/even_bucket/evenbucket/IntervalBucketRecordAtLatestDecisionPinLaw" (some 0) with
  accessFlags := 49
  interfaces := #[]
  cf := some (fileOf pool1 54 #[] #[{ accessFlags := 1, nameIndex := 5, descriptorIndex := 6, attributes := #[] }, { accessFlags := 9, nameIndex := 58, descriptorIndex := 59, attributes := #[] }] 49 2 #[] #[])
  fields := #[]
  methods := #[k1m0, k1m1]
  instanceTypes := #[]
  staticTypes := #[]
  resolved := Array.replicate 67 none
  statics := none }

def pool2 : Array CpInfo := pool [(1, .class_ 2), (0, u "java/lang/Math"), (1, .class_ 6), (1, u "java/lang/Object"), (0, u "<init>"), (0, u "()V"), (89, .class_ 100), (1, u "java/lang/Math$RandomNumberGeneratorHolder"), (20, u "(JJ)J"), (50, u "negativeZeroFloatBits"), (0, u "J"), (2, u "negativeZeroDoubleBits"), (21, u "max"), (46, u "$assertionsDisabled"), (0, u "Z"), (88, u "(II)I"), (2, u "twoToTheDoubleScaleDown"), (0, u "D"), (4, u "twoToTheDoubleScaleUp"), (9, u "E"), (3, u "PI"), (2, u "TAU"), (2, u "DEGREES_TO_RADIANS"), (0, u "RADIANS_TO_DEGREES")] 94

def k2m0 : Method := { name := "<init>", desc := "()V", sig := { parameters := [], returnType := none }, accessFlags := 2, code := none }
def k2c1 : Code := { maxStack := 2, maxLocals := 2, code := jdk_29_method_65_code, exceptionTable := #[], attributes := #[] }
def k2m1 : Method := { name := "max", desc := "(II)I", sig := { parameters := [.int, .int], returnType := some .int }, accessFlags := 9, code := some k2c1 }
def k2c2 : Code := { maxStack := 4, maxLocals := 4, code := jdk_29_method_66_code, exceptionTable := #[], attributes := #[] }
def k2m2 : Method := { name := "max", desc := "(JJ)J", sig := { parameters := [.long, .long], returnType := some .long }, accessFlags := 9, code := some k2c2 }
/-- java/lang/Math -/
def k2 : Class := { plain "java/lang/Math" (some 0) with
  accessFlags := 49
  interfaces := #[]
  cf := some (fileOf pool2 1 #[.nestMembers #[98]] #[{ accessFlags := 2, nameIndex := 7, descriptorIndex := 8, attributes := #[] }, { accessFlags := 9, nameIndex := 198, descriptorIndex := 335, attributes := #[] }, { accessFlags := 9, nameIndex := 198, descriptorIndex := 121, attributes := #[] }] 49 4 #[] #[{ accessFlags := 25, nameIndex := 354, descriptorIndex := 339, attributes := #[] }, { accessFlags := 25, nameIndex := 358, descriptorIndex := 339, attributes := #[] }, { accessFlags := 25, nameIndex := 361, descriptorIndex := 339, attributes := #[] }, { accessFlags := 26, nameIndex := 364, descriptorIndex := 339, attributes := #[] }, { accessFlags := 26, nameIndex := 365, descriptorIndex := 339, attributes := #[] }, { accessFlags := 26, nameIndex := 172, descriptorIndex := 173, attributes := #[] }, { accessFlags := 26, nameIndex := 176, descriptorIndex := 173, attributes := #[] }, { accessFlags := 8, nameIndex := 344, descriptorIndex := 339, attributes := #[] }, { accessFlags := 8, nameIndex := 338, descriptorIndex := 339, attributes := #[] }, { accessFlags := 4120, nameIndex := 245, descriptorIndex := 246, attributes := #[] }])
  fields := #[{ name := "E", type := .double, accessFlags := 25, slot := 0, constantValue := 0 }, { name := "PI", type := .double, accessFlags := 25, slot := 1, constantValue := 0 }, { name := "TAU", type := .double, accessFlags := 25, slot := 2, constantValue := 0 }, { name := "DEGREES_TO_RADIANS", type := .double, accessFlags := 26, slot := 3, constantValue := 0 }, { name := "RADIANS_TO_DEGREES", type := .double, accessFlags := 26, slot := 4, constantValue := 0 }, { name := "negativeZeroFloatBits", type := .long, accessFlags := 26, slot := 5, constantValue := 0 }, { name := "negativeZeroDoubleBits", type := .long, accessFlags := 26, slot := 6, constantValue := 0 }, { name := "twoToTheDoubleScaleUp", type := .double, accessFlags := 8, slot := 7, constantValue := 0 }, { name := "twoToTheDoubleScaleDown", type := .double, accessFlags := 8, slot := 8, constantValue := 0 }, { name := "$assertionsDisabled", type := .boolean, accessFlags := 4120, slot := 9, constantValue := 0 }]
  methods := #[k2m0, k2m1, k2m2]
  instanceTypes := #[]
  staticTypes := #[.double, .double, .double, .double, .double, .long, .long, .double, .double, .boolean]
  resolved := Array.replicate 460 none
  statics := none }

def pool3 : Array CpInfo := pool [(5, .class_ 6), (0, u "com/example/even_bucket/evenbucket/Admissions"), (0, .class_ 8), (0, u "java/lang/Object"), (17, .class_ 27), (0, u "com/example/even_bucket/evenbucket/Admissions$Moment")] 2

/-- com/example/even_bucket/evenbucket/Admissions -/
def k3 : Class := { plain "com/example/even_bucket/evenbucket/Admissions" (some 0) with
  accessFlags := 1536
  interfaces := #[]
  cf := some (fileOf pool3 5 #[.nestMembers #[26]] #[] 1536 7 #[] #[])
  fields := #[]
  methods := #[]
  instanceTypes := #[]
  staticTypes := #[]
  resolved := Array.replicate 30 none
  statics := none }

def pool4 : Array CpInfo := pool [(1, .methodref 2 3), (0, .class_ 4), (0, .nameAndType 5 6), (0, u "java/lang/Object"), (0, u "<init>"), (0, u "()V"), (0, .fieldref 8 9), (0, .class_ 10), (0, .nameAndType 11 12), (0, u "com/example/even_bucket/evenbucket/IntervalBucket"), (0, u "capacity"), (0, u "I"), (0, .fieldref 8 14), (0, .nameAndType 15 12), (0, u "refill"), (0, .fieldref 8 17), (0, .nameAndType 18 19), (0, u "periodMillis"), (0, u "J"), (0, .methodref 21 22), (0, .class_ 23), (0, .nameAndType 24 25), (0, u "java/lang/Long"), (0, u "remainderUnsigned"), (0, u "(JJ)J"), (0, .fieldref 8 27), (0, .nameAndType 28 29), (0, u "admitted"), (0, u "Z"), (0, .fieldref 8 31), (0, .nameAndType 32 19), (0, u "origin"), (0, .fieldref 8 34), (0, .nameAndType 35 19), (0, u "newest"), (0, .fieldref 8 37), (0, .nameAndType 38 19), (0, u "permits"), (0, .methodref 40 41), (0, .class_ 42), (0, .nameAndType 43 25), (0, u "java/lang/Math"), (0, u "max"), (0, .fieldref 8 45), (0, .nameAndType 46 19), (0, u "decidedAt"), (0, .methodref 8 48), (0, .nameAndType 49 50), (0, u "permitsAt"), (0, u "(J)J"), (0, .methodref 8 52), (0, .nameAndType 53 54), (0, u "refusalAt"), (0, u "(J)Lcom/example/even_bucket/evenbucket/Decision;"), (0, .methodref 56 57), (0, .class_ 58), (0, .nameAndType 59 54), (0, u "com/example/even_bucket/evenbucket/Decision"), (0, u "allow"), (0, .class_ 61), (0, u "com/example/even_bucket/evenbucket/Admissions$Moment"), (0, .methodref 60 63), (0, .nameAndType 5 64), (0, u "(JIJLcom/example/even_bucket/evenbucket/Decision;)V"), (2, .methodref 8 68), (0, .nameAndType 69 50), (0, u "periodsTo"), (0, .methodref 21 71), (0, .nameAndType 72 73), (0, u "compareUnsigned"), (0, u "(JJ)I"), (0, .methodref 21 75), (0, .nameAndType 76 25), (0, u "divideUnsigned"), (0, .methodref 8 78), (0, .nameAndType 79 25), (0, u "untilNextRefill"), (0, .methodref 81 82), (0, .class_ 83), (0, .nameAndType 84 85), (0, u "java/time/Duration"), (0, u "ofMillis"), (0, u "(J)Ljava/time/Duration;"), (0, .methodref 56 87), (0, .nameAndType 88 89), (0, u "refuse"), (0, u "(Ljava/time/Duration;)Lcom/example/even_bucket/evenbucket/Decision;"), (0, .class_ 91), (0, u "com/example/even_bucket/evenbucket/Admissions"), (0, u "(IIJ)V"), (2, u "tryAcquire"), (2, u "moment"), (0, u "()Lcom/example/even_bucket/evenbucket/Admissions$Moment;"), (0, u "recordAtLatestDecision"), (0, u "(I)V")] 5

def k4c0 : Code := { maxStack := 3, maxLocals := 5, code := prog_33_method_1_code, exceptionTable := #[], attributes := #[] }
def k4m0 : Method := { name := "<init>", desc := "(IIJ)V", sig := { parameters := [.int, .int, .long], returnType := none }, accessFlags := 0, code := some k4c0 }
def k4c1 : Code := { maxStack := 6, maxLocals := 4, code := prog_33_method_2_code, exceptionTable := #[], attributes := #[] }
def k4m1 : Method := { name := "untilNextRefill", desc := "(JJ)J", sig := { parameters := [.long, .long], returnType := some .long }, accessFlags := 8, code := some k4c1 }
def k4c2 : Code := { maxStack := 5, maxLocals := 7, code := prog_33_method_3_code, exceptionTable := #[], attributes := #[] }
def k4m2 : Method := { name := "tryAcquire", desc := "(J)Lcom/example/even_bucket/evenbucket/Decision;", sig := { parameters := [.long], returnType := some (.object "com/example/even_bucket/evenbucket/Decision") }, accessFlags := 1, code := some k4c2 }
def k4c3 : Code := { maxStack := 10, maxLocals := 1, code := prog_33_method_5_code, exceptionTable := #[], attributes := #[] }
def k4m3 : Method := { name := "moment", desc := "()Lcom/example/even_bucket/evenbucket/Admissions$Moment;", sig := { parameters := [], returnType := some (.object "com/example/even_bucket/evenbucket/Admissions$Moment") }, accessFlags := 1, code := some k4c3 }
def k4c4 : Code := { maxStack := 5, maxLocals := 2, code := prog_33_method_6_code, exceptionTable := #[], attributes := #[] }
def k4m4 : Method := { name := "recordAtLatestDecision", desc := "(I)V", sig := { parameters := [.int], returnType := none }, accessFlags := 1, code := some k4c4 }
def k4c5 : Code := { maxStack := 6, maxLocals := 7, code := prog_33_method_8_code, exceptionTable := #[], attributes := #[] }
def k4m5 : Method := { name := "permitsAt", desc := "(J)J", sig := { parameters := [.long], returnType := some .long }, accessFlags := 2, code := some k4c5 }
def k4c6 : Code := { maxStack := 4, maxLocals := 3, code := prog_33_method_9_code, exceptionTable := #[], attributes := #[] }
def k4m6 : Method := { name := "periodsTo", desc := "(J)J", sig := { parameters := [.long], returnType := some .long }, accessFlags := 2, code := some k4c6 }
def k4c7 : Code := { maxStack := 4, maxLocals := 3, code := prog_33_method_10_code, exceptionTable := #[], attributes := #[] }
def k4m7 : Method := { name := "refusalAt", desc := "(J)Lcom/example/even_bucket/evenbucket/Decision;", sig := { parameters := [.long], returnType := some (.object "com/example/even_bucket/evenbucket/Decision") }, accessFlags := 2, code := some k4c7 }
/-- com/example/even_bucket/evenbucket/IntervalBucket -/
def k4 : Class := { plain "com/example/even_bucket/evenbucket/IntervalBucket" (some 0) with
  accessFlags := 32
  interfaces := #[3]
  cf := some (fileOf pool4 8 #[] #[{ accessFlags := 0, nameIndex := 5, descriptorIndex := 92, attributes := #[] }, { accessFlags := 8, nameIndex := 79, descriptorIndex := 25, attributes := #[] }, { accessFlags := 1, nameIndex := 95, descriptorIndex := 54, attributes := #[] }, { accessFlags := 1, nameIndex := 98, descriptorIndex := 99, attributes := #[] }, { accessFlags := 1, nameIndex := 100, descriptorIndex := 101, attributes := #[] }, { accessFlags := 2, nameIndex := 49, descriptorIndex := 50, attributes := #[] }, { accessFlags := 2, nameIndex := 69, descriptorIndex := 50, attributes := #[] }, { accessFlags := 2, nameIndex := 53, descriptorIndex := 54, attributes := #[] }] 32 2 #[90] #[{ accessFlags := 18, nameIndex := 11, descriptorIndex := 12, attributes := #[] }, { accessFlags := 18, nameIndex := 15, descriptorIndex := 12, attributes := #[] }, { accessFlags := 18, nameIndex := 18, descriptorIndex := 19, attributes := #[] }, { accessFlags := 2, nameIndex := 38, descriptorIndex := 19, attributes := #[] }, { accessFlags := 2, nameIndex := 32, descriptorIndex := 19, attributes := #[] }, { accessFlags := 2, nameIndex := 35, descriptorIndex := 19, attributes := #[] }, { accessFlags := 2, nameIndex := 28, descriptorIndex := 29, attributes := #[] }, { accessFlags := 2, nameIndex := 46, descriptorIndex := 19, attributes := #[] }])
  fields := #[{ name := "capacity", type := .int, accessFlags := 18, slot := 0, constantValue := 0 }, { name := "refill", type := .int, accessFlags := 18, slot := 1, constantValue := 0 }, { name := "periodMillis", type := .long, accessFlags := 18, slot := 2, constantValue := 0 }, { name := "permits", type := .long, accessFlags := 2, slot := 3, constantValue := 0 }, { name := "origin", type := .long, accessFlags := 2, slot := 4, constantValue := 0 }, { name := "newest", type := .long, accessFlags := 2, slot := 5, constantValue := 0 }, { name := "admitted", type := .boolean, accessFlags := 2, slot := 6, constantValue := 0 }, { name := "decidedAt", type := .long, accessFlags := 2, slot := 7, constantValue := 0 }]
  methods := #[k4m0, k4m1, k4m2, k4m3, k4m4, k4m5, k4m6, k4m7]
  instanceTypes := #[.int, .int, .long, .long, .long, .long, .boolean, .long]
  staticTypes := #[]
  resolved := Array.replicate 107 none
  statics := none }

def pool5 : Array CpInfo := pool [(1, .class_ 2), (0, u "java/io/Serializable"), (0, .class_ 4), (0, u "java/lang/Object")] 2

/-- java/io/Serializable -/
def k5 : Class := { plain "java/io/Serializable" (some 0) with
  accessFlags := 1537
  interfaces := #[]
  cf := some (fileOf pool5 1 #[] #[] 1537 3 #[] #[])
  fields := #[]
  methods := #[]
  instanceTypes := #[]
  staticTypes := #[]
  resolved := Array.replicate 7 none
  statics := none }

def pool6 : Array CpInfo := pool [(2, .class_ 4), (1, u "java/lang/Object"), (0, u "<init>"), (0, u "()V"), (1, .class_ 10), (1, u "java/lang/Number"), (2, .class_ 14), (0, u "java/io/Serializable"), (0, u "serialVersionUID"), (0, u "J")] 20

def k6m0 : Method := { name := "<init>", desc := "()V", sig := { parameters := [], returnType := none }, accessFlags := 1, code := none }
/-- java/lang/Number -/
def k6 : Class := { plain "java/lang/Number" (some 0) with
  accessFlags := 1057
  interfaces := #[5]
  cf := some (fileOf pool6 8 #[] #[{ accessFlags := 1, nameIndex := 5, descriptorIndex := 6, attributes := #[] }] 1057 2 #[13] #[{ accessFlags := 26, nameIndex := 15, descriptorIndex := 16, attributes := #[] }])
  fields := #[{ name := "serialVersionUID", type := .long, accessFlags := 26, slot := 0, constantValue := 0 }]
  methods := #[k6m0]
  instanceTypes := #[]
  staticTypes := #[.long]
  resolved := Array.replicate 37 none
  statics := none }

def pool7 : Array CpInfo := pool [(1, .class_ 2), (0, u "java/lang/Comparable"), (0, .class_ 4), (0, u "java/lang/Object")] 7

/-- java/lang/Comparable -/
def k7 : Class := { plain "java/lang/Comparable" (some 0) with
  accessFlags := 1537
  interfaces := #[]
  cf := some (fileOf pool7 1 #[] #[] 1537 3 #[] #[])
  fields := #[]
  methods := #[]
  instanceTypes := #[]
  staticTypes := #[]
  resolved := Array.replicate 12 none
  statics := none }

def pool8 : Array CpInfo := pool [(1, .class_ 2), (0, u "java/lang/constant/Constable"), (0, .class_ 4), (0, u "java/lang/Object")] 6

/-- java/lang/constant/Constable -/
def k8 : Class := { plain "java/lang/constant/Constable" (some 0) with
  accessFlags := 1537
  interfaces := #[]
  cf := some (fileOf pool8 1 #[] #[] 1537 3 #[] #[])
  fields := #[]
  methods := #[]
  instanceTypes := #[]
  staticTypes := #[]
  resolved := Array.replicate 11 none
  statics := none }

def pool9 : Array CpInfo := pool [(1, .class_ 2), (0, u "java/lang/constant/ConstantDesc"), (0, .class_ 4), (0, u "java/lang/Object")] 32

/-- java/lang/constant/ConstantDesc -/
def k9 : Class := { plain "java/lang/constant/ConstantDesc" (some 0) with
  accessFlags := 1537
  interfaces := #[]
  cf := some (fileOf pool9 1 #[] #[] 1537 3 #[] #[])
  fields := #[]
  methods := #[]
  instanceTypes := #[]
  staticTypes := #[]
  resolved := Array.replicate 37 none
  statics := none }

def pool10 : Array CpInfo := pool [(1, .class_ 2), (0, u "java/lang/Long"), (165, .long 9223372036854775808), (66, .class_ 237), (1, u "java/lang/Long$LongCache"), (33, .class_ 272), (0, u "java/lang/Number"), (2, u "value"), (0, u "J"), (25, .methodref 1 303), (0, .nameAndType 304 305), (0, u "compare"), (0, u "(JJ)I"), (0, .long 18446744073709551615), (26, u "(JJ)J"), (27, u "TYPE"), (0, u "Ljava/lang/Class;"), (0, .class_ 364), (0, u "java/lang/Comparable"), (0, .class_ 366), (0, u "java/lang/constant/Constable"), (0, .class_ 368), (0, u "java/lang/constant/ConstantDesc"), (0, u "MIN_VALUE"), (1, u "MAX_VALUE"), (4, u "SIZE"), (0, u "I"), (1, u "BYTES"), (1, u "serialVersionUID"), (87, u "compareUnsigned"), (0, u "divideUnsigned"), (2, u "remainderUnsigned")] 50

def k10c0 : Code := { maxStack := 4, maxLocals := 4, code := jdk_35_method_42_code, exceptionTable := #[], attributes := #[] }
def k10m0 : Method := { name := "compare", desc := "(JJ)I", sig := { parameters := [.long, .long], returnType := some .int }, accessFlags := 9, code := some k10c0 }
def k10c1 : Code := { maxStack := 6, maxLocals := 4, code := jdk_35_method_43_code, exceptionTable := #[], attributes := #[] }
def k10m1 : Method := { name := "compareUnsigned", desc := "(JJ)I", sig := { parameters := [.long, .long], returnType := some .int }, accessFlags := 9, code := some k10c1 }
def k10c2 : Code := { maxStack := 8, maxLocals := 8, code := jdk_35_method_44_code, exceptionTable := #[], attributes := #[] }
def k10m2 : Method := { name := "divideUnsigned", desc := "(JJ)J", sig := { parameters := [.long, .long], returnType := some .long }, accessFlags := 9, code := some k10c2 }
def k10c3 : Code := { maxStack := 8, maxLocals := 8, code := jdk_35_method_45_code, exceptionTable := #[], attributes := #[] }
def k10m3 : Method := { name := "remainderUnsigned", desc := "(JJ)J", sig := { parameters := [.long, .long], returnType := some .long }, accessFlags := 9, code := some k10c3 }
/-- java/lang/Long -/
def k10 : Class := { plain "java/lang/Long" (some 6) with
  accessFlags := 49
  interfaces := #[7, 8, 9]
  cf := some (fileOf pool10 1 #[.nestMembers #[235]] #[{ accessFlags := 9, nameIndex := 304, descriptorIndex := 305, attributes := #[] }, { accessFlags := 9, nameIndex := 469, descriptorIndex := 305, attributes := #[] }, { accessFlags := 9, nameIndex := 470, descriptorIndex := 333, attributes := #[] }, { accessFlags := 9, nameIndex := 473, descriptorIndex := 333, attributes := #[] }] 49 271 #[363, 365, 367] #[{ accessFlags := 25, nameIndex := 369, descriptorIndex := 276, attributes := #[] }, { accessFlags := 25, nameIndex := 371, descriptorIndex := 276, attributes := #[] }, { accessFlags := 25, nameIndex := 361, descriptorIndex := 362, attributes := #[] }, { accessFlags := 18, nameIndex := 275, descriptorIndex := 276, attributes := #[] }, { accessFlags := 25, nameIndex := 376, descriptorIndex := 377, attributes := #[] }, { accessFlags := 25, nameIndex := 379, descriptorIndex := 377, attributes := #[] }, { accessFlags := 26, nameIndex := 381, descriptorIndex := 276, attributes := #[] }])
  fields := #[{ name := "MIN_VALUE", type := .long, accessFlags := 25, slot := 0, constantValue := 0 }, { name := "MAX_VALUE", type := .long, accessFlags := 25, slot := 1, constantValue := 0 }, { name := "TYPE", type := (.object "java/lang/Class"), accessFlags := 25, slot := 2, constantValue := 0 }, { name := "value", type := .long, accessFlags := 18, slot := 0, constantValue := 0 }, { name := "SIZE", type := .int, accessFlags := 25, slot := 3, constantValue := 0 }, { name := "BYTES", type := .int, accessFlags := 25, slot := 4, constantValue := 0 }, { name := "serialVersionUID", type := .long, accessFlags := 26, slot := 5, constantValue := 0 }]
  methods := #[k10m0, k10m1, k10m2, k10m3]
  instanceTypes := #[.long]
  staticTypes := #[.long, .long, (.object "java/lang/Class"), .int, .int, .long]
  resolved := Array.replicate 524 none
  statics := none }

def pool11 : Array CpInfo := pool [(1, .methodref 2 3), (0, .class_ 4), (0, .nameAndType 5 6), (0, u "java/lang/Object"), (0, u "<init>"), (0, u "()V"), (0, .fieldref 8 9), (0, .class_ 10), (0, .nameAndType 11 12), (0, u "com/example/even_bucket/evenbucket/Decision"), (0, u "remaining"), (0, u "J"), (0, .fieldref 8 14), (0, .nameAndType 15 16), (0, u "retryAfter"), (0, u "Ljava/time/Duration;"), (0, .fieldref 8 18), (0, .nameAndType 19 20), (0, u "byFallback"), (0, u "Z"), (9, .fieldref 31 32), (0, .class_ 33), (0, .nameAndType 34 16), (0, u "java/time/Duration"), (0, u "ZERO"), (0, .methodref 8 36), (0, .nameAndType 5 37), (0, u "(JLjava/time/Duration;Z)V"), (0, .string 15), (0, .methodref 40 41), (0, .class_ 42), (0, .nameAndType 43 44), (0, u "com/example/even_bucket/evenbucket/Durations"), (0, u "requirePositiveWholeMillis"), (0, u "(Ljava/time/Duration;Ljava/lang/String;)Ljava/time/Duration;"), (0, .methodref 31 46), (0, .nameAndType 47 48), (0, u "isZero"), (0, u "()Z"), (23, u "allowed"), (10, u "allow"), (0, u "(J)Lcom/example/even_bucket/evenbucket/Decision;"), (1, u "refuse"), (0, u "(Ljava/time/Duration;)Lcom/example/even_bucket/evenbucket/Decision;"), (2, u "()J")] 24

def k11c0 : Code := { maxStack := 3, maxLocals := 5, code := prog_19_method_1_code, exceptionTable := #[], attributes := #[] }
def k11m0 : Method := { name := "<init>", desc := "(JLjava/time/Duration;Z)V", sig := { parameters := [.long, (.object "java/time/Duration"), .boolean], returnType := none }, accessFlags := 2, code := some k11c0 }
def k11c1 : Code := { maxStack := 6, maxLocals := 2, code := prog_19_method_2_code, exceptionTable := #[], attributes := #[] }
def k11m1 : Method := { name := "allow", desc := "(J)Lcom/example/even_bucket/evenbucket/Decision;", sig := { parameters := [.long], returnType := some (.object "com/example/even_bucket/evenbucket/Decision") }, accessFlags := 9, code := some k11c1 }
def k11c2 : Code := { maxStack := 6, maxLocals := 1, code := prog_19_method_3_code, exceptionTable := #[], attributes := #[] }
def k11m2 : Method := { name := "refuse", desc := "(Ljava/time/Duration;)Lcom/example/even_bucket/evenbucket/Decision;", sig := { parameters := [(.object "java/time/Duration")], returnType := some (.object "com/example/even_bucket/evenbucket/Decision") }, accessFlags := 9, code := some k11c2 }
def k11c3 : Code := { maxStack := 1, maxLocals := 1, code := prog_19_method_5_code, exceptionTable := #[], attributes := #[] }
def k11m3 : Method := { name := "allowed", desc := "()Z", sig := { parameters := [], returnType := some .boolean }, accessFlags := 1, code := some k11c3 }
def k11c4 : Code := { maxStack := 2, maxLocals := 1, code := prog_19_method_6_code, exceptionTable := #[], attributes := #[] }
def k11m4 : Method := { name := "remaining", desc := "()J", sig := { parameters := [], returnType := some .long }, accessFlags := 1, code := some k11c4 }
/-- com/example/even_bucket/evenbucket/Decision -/
def k11 : Class := { plain "com/example/even_bucket/evenbucket/Decision" (some 0) with
  accessFlags := 33
  interfaces := #[]
  cf := some (fileOf pool11 8 #[] #[{ accessFlags := 2, nameIndex := 5, descriptorIndex := 37, attributes := #[] }, { accessFlags := 9, nameIndex := 83, descriptorIndex := 84, attributes := #[] }, { accessFlags := 9, nameIndex := 86, descriptorIndex := 87, attributes := #[] }, { accessFlags := 1, nameIndex := 72, descriptorIndex := 48, attributes := #[] }, { accessFlags := 1, nameIndex := 11, descriptorIndex := 90, attributes := #[] }] 33 2 #[] #[{ accessFlags := 18, nameIndex := 11, descriptorIndex := 12, attributes := #[] }, { accessFlags := 18, nameIndex := 15, descriptorIndex := 16, attributes := #[] }, { accessFlags := 18, nameIndex := 19, descriptorIndex := 20, attributes := #[] }])
  fields := #[{ name := "remaining", type := .long, accessFlags := 18, slot := 0, constantValue := 0 }, { name := "retryAfter", type := (.object "java/time/Duration"), accessFlags := 18, slot := 1, constantValue := 0 }, { name := "byFallback", type := .boolean, accessFlags := 18, slot := 2, constantValue := 0 }]
  methods := #[k11m0, k11m1, k11m2, k11m3, k11m4]
  instanceTypes := #[.long, (.object "java/time/Duration"), .boolean]
  staticTypes := #[]
  resolved := Array.replicate 115 none
  statics := none }

def pool12 : Array CpInfo := pool [(1, .class_ 2), (0, u "java/time/temporal/TemporalAmount"), (0, .class_ 4), (0, u "java/lang/Object")] 11

/-- java/time/temporal/TemporalAmount -/
def k12 : Class := { plain "java/time/temporal/TemporalAmount" (some 0) with
  accessFlags := 1537
  interfaces := #[]
  cf := some (fileOf pool12 1 #[] #[] 1537 3 #[] #[])
  fields := #[]
  methods := #[]
  instanceTypes := #[]
  staticTypes := #[]
  resolved := Array.replicate 16 none
  statics := none }

def pool13 : Array CpInfo := pool [(10, .methodref 11 12), (0, .class_ 13), (0, .nameAndType 14 15), (0, u "java/time/Duration"), (0, u "create"), (0, u "(JI)Ljava/time/Duration;"), (12, .long 1000), (1, .integer 1000000), (3, u "ZERO"), (0, u "Ljava/time/Duration;"), (13, .class_ 51), (1, u "java/time/temporal/TemporalAmount"), (13, u "()Z"), (13, .class_ 81), (1, u "java/time/Duration$Lazy"), (35, u "seconds"), (21, u "<init>"), (7, .class_ 149), (1, u "java/lang/Long"), (7, .nameAndType 139 158), (0, u "()V"), (40, u "(J)Ljava/time/Duration;"), (15, .methodref 11 216), (0, .nameAndType 139 217), (0, u "(JI)V"), (0, .methodref 219 157), (0, .class_ 220), (0, u "java/lang/Object"), (0, .fieldref 11 222), (0, .nameAndType 117 223), (0, u "J"), (0, .fieldref 11 225), (0, .nameAndType 226 227), (0, u "nanos"), (0, u "I"), (11, .class_ 241), (1, u "java/time/Duration$DurationUnits"), (12, u "getNano"), (0, u "()I"), (13, .class_ 271), (1, u "java/time/Duration$1"), (91, u "BI_NANOS_PER_SECOND"), (0, u "Ljava/math/BigInteger;"), (51, .methodref 147 417), (0, .nameAndType 418 419), (0, u "compare"), (0, u "(JJ)I"), (60, u "compareTo"), (0, u "(Ljava/time/Duration;)I"), (3, .class_ 486), (0, u "java/lang/Comparable"), (0, .class_ 488), (0, u "java/io/Serializable"), (0, u "serialVersionUID"), (12, u "ofMillis"), (53, u "isZero")] 99

def k13c0 : Code := { maxStack := 4, maxLocals := 5, code := jdk_2316_method_6_code, exceptionTable := #[], attributes := #[] }
def k13m0 : Method := { name := "ofMillis", desc := "(J)Ljava/time/Duration;", sig := { parameters := [.long], returnType := some (.object "java/time/Duration") }, accessFlags := 9, code := some k13c0 }
def k13c1 : Code := { maxStack := 5, maxLocals := 3, code := jdk_2316_method_16_code, exceptionTable := #[], attributes := #[] }
def k13m1 : Method := { name := "create", desc := "(JI)Ljava/time/Duration;", sig := { parameters := [.long, .int], returnType := some (.object "java/time/Duration") }, accessFlags := 10, code := some k13c1 }
def k13c2 : Code := { maxStack := 3, maxLocals := 4, code := jdk_2316_method_17_code, exceptionTable := #[], attributes := #[] }
def k13m2 : Method := { name := "<init>", desc := "(JI)V", sig := { parameters := [.long, .int], returnType := none }, accessFlags := 2, code := some k13c2 }
def k13c3 : Code := { maxStack := 4, maxLocals := 1, code := jdk_2316_method_21_code, exceptionTable := #[], attributes := #[] }
def k13m3 : Method := { name := "isZero", desc := "()Z", sig := { parameters := [], returnType := some .boolean }, accessFlags := 1, code := some k13c3 }
def k13c4 : Code := { maxStack := 1, maxLocals := 1, code := jdk_2316_method_24_code, exceptionTable := #[], attributes := #[] }
def k13m4 : Method := { name := "getNano", desc := "()I", sig := { parameters := [], returnType := some .int }, accessFlags := 1, code := some k13c4 }
def k13c5 : Code := { maxStack := 4, maxLocals := 3, code := jdk_2316_method_66_code, exceptionTable := #[], attributes := #[] }
def k13m5 : Method := { name := "compareTo", desc := "(Ljava/time/Duration;)I", sig := { parameters := [(.object "java/time/Duration")], returnType := some .int }, accessFlags := 1, code := some k13c5 }
/-- java/time/Duration -/
def k13 : Class := { plain "java/time/Duration" (some 0) with
  accessFlags := 49
  interfaces := #[12, 7, 5]
  cf := some (fileOf pool13 11 #[.nestMembers #[269, 239, 79]] #[{ accessFlags := 9, nameIndex := 502, descriptorIndex := 199, attributes := #[] }, { accessFlags := 10, nameIndex := 14, descriptorIndex := 15, attributes := #[] }, { accessFlags := 2, nameIndex := 139, descriptorIndex := 217, attributes := #[] }, { accessFlags := 1, nameIndex := 556, descriptorIndex := 65, attributes := #[] }, { accessFlags := 1, nameIndex := 254, descriptorIndex := 255, attributes := #[] }, { accessFlags := 1, nameIndex := 480, descriptorIndex := 481, attributes := #[] }] 49 219 #[49, 485, 487] #[{ accessFlags := 25, nameIndex := 34, descriptorIndex := 35, attributes := #[] }, { accessFlags := 26, nameIndex := 489, descriptorIndex := 223, attributes := #[] }, { accessFlags := 26, nameIndex := 363, descriptorIndex := 364, attributes := #[] }, { accessFlags := 18, nameIndex := 117, descriptorIndex := 223, attributes := #[] }, { accessFlags := 18, nameIndex := 226, descriptorIndex := 227, attributes := #[] }])
  fields := #[{ name := "ZERO", type := (.object "java/time/Duration"), accessFlags := 25, slot := 0, constantValue := 0 }, { name := "serialVersionUID", type := .long, accessFlags := 26, slot := 1, constantValue := 0 }, { name := "BI_NANOS_PER_SECOND", type := (.object "java/math/BigInteger"), accessFlags := 26, slot := 2, constantValue := 0 }, { name := "seconds", type := .long, accessFlags := 18, slot := 0, constantValue := 0 }, { name := "nanos", type := .int, accessFlags := 18, slot := 1, constantValue := 0 }]
  methods := #[k13m0, k13m1, k13m2, k13m3, k13m4, k13m5]
  instanceTypes := #[.long, .int]
  staticTypes := #[(.object "java/time/Duration"), .long, (.object "java/math/BigInteger")]
  resolved := Array.replicate 656 none
  statics := some 0 }

def pool14 : Array CpInfo := pool [(1, .methodref 2 3), (0, .class_ 4), (0, .nameAndType 5 6), (0, u "java/lang/Object"), (0, u "<init>"), (0, u "()V"), (0, .class_ 8), (0, u "java/lang/Record")] 13

def k14c0 : Code := { maxStack := 1, maxLocals := 1, code := jdk_30_method_1_code, exceptionTable := #[], attributes := #[] }
def k14m0 : Method := { name := "<init>", desc := "()V", sig := { parameters := [], returnType := none }, accessFlags := 4, code := some k14c0 }
/-- java/lang/Record -/
def k14 : Class := { plain "java/lang/Record" (some 0) with
  accessFlags := 1057
  interfaces := #[]
  cf := some (fileOf pool14 7 #[] #[{ accessFlags := 4, nameIndex := 5, descriptorIndex := 6, attributes := #[] }] 1057 2 #[] #[])
  fields := #[]
  methods := #[k14m0]
  instanceTypes := #[]
  staticTypes := #[]
  resolved := Array.replicate 22 none
  statics := none }

def pool15 : Array CpInfo := pool [(1, .methodref 2 3), (0, .class_ 4), (0, .nameAndType 5 6), (0, u "java/lang/Record"), (0, u "<init>"), (0, u "()V"), (0, .fieldref 8 9), (0, .class_ 10), (0, .nameAndType 11 12), (0, u "com/example/even_bucket/evenbucket/Admissions$Moment"), (0, u "millis"), (0, u "J"), (0, .fieldref 8 14), (0, .nameAndType 15 16), (0, u "free"), (0, u "I"), (0, .fieldref 8 18), (0, .nameAndType 19 12), (0, u "newest"), (0, .fieldref 8 21), (0, .nameAndType 22 23), (0, u "refusal"), (0, u "Lcom/example/even_bucket/evenbucket/Decision;"), (38, u "(JIJLcom/example/even_bucket/evenbucket/Decision;)V"), (7, u "()I"), (6, .class_ 78), (0, u "com/example/even_bucket/evenbucket/Admissions")] 22

def k15c0 : Code := { maxStack := 3, maxLocals := 7, code := prog_12_method_1_code, exceptionTable := #[], attributes := #[] }
def k15m0 : Method := { name := "<init>", desc := "(JIJLcom/example/even_bucket/evenbucket/Decision;)V", sig := { parameters := [.long, .int, .long, (.object "com/example/even_bucket/evenbucket/Decision")], returnType := none }, accessFlags := 1, code := some k15c0 }
def k15c1 : Code := { maxStack := 1, maxLocals := 1, code := prog_12_method_8_code, exceptionTable := #[], attributes := #[] }
def k15m1 : Method := { name := "free", desc := "()I", sig := { parameters := [], returnType := some .int }, accessFlags := 1, code := some k15c1 }
/-- com/example/even_bucket/evenbucket/Admissions$Moment -/
def k15 : Class := { plain "com/example/even_bucket/evenbucket/Admissions$Moment" (some 14) with
  accessFlags := 49
  interfaces := #[]
  cf := some (fileOf pool15 8 #[.nestHost 77] #[{ accessFlags := 1, nameIndex := 5, descriptorIndex := 62, attributes := #[] }, { accessFlags := 1, nameIndex := 15, descriptorIndex := 70, attributes := #[] }] 49 2 #[] #[{ accessFlags := 18, nameIndex := 11, descriptorIndex := 12, attributes := #[] }, { accessFlags := 18, nameIndex := 15, descriptorIndex := 16, attributes := #[] }, { accessFlags := 18, nameIndex := 19, descriptorIndex := 12, attributes := #[] }, { accessFlags := 18, nameIndex := 22, descriptorIndex := 23, attributes := #[] }])
  fields := #[{ name := "millis", type := .long, accessFlags := 18, slot := 0, constantValue := 0 }, { name := "free", type := .int, accessFlags := 18, slot := 1, constantValue := 0 }, { name := "newest", type := .long, accessFlags := 18, slot := 2, constantValue := 0 }, { name := "refusal", type := (.object "com/example/even_bucket/evenbucket/Decision"), accessFlags := 18, slot := 3, constantValue := 0 }]
  methods := #[k15m0, k15m1]
  instanceTypes := #[.long, .int, .long, (.object "com/example/even_bucket/evenbucket/Decision")]
  staticTypes := #[]
  resolved := Array.replicate 101 none
  statics := none }

def pool16 : Array CpInfo := pool [(2, .class_ 4), (1, u "java/lang/CharSequence"), (42, .class_ 48), (0, u "java/lang/CharSequence$1CodePointIterator"), (10, .class_ 60), (0, u "java/lang/CharSequence$1CharIterator"), (5, .class_ 67), (0, u "java/lang/Object")] 63

/-- java/lang/CharSequence -/
def k16 : Class := { plain "java/lang/CharSequence" (some 0) with
  accessFlags := 1537
  interfaces := #[]
  cf := some (fileOf pool16 2 #[.nestMembers #[47, 59]] #[] 1537 66 #[] #[])
  fields := #[]
  methods := #[]
  instanceTypes := #[]
  staticTypes := #[]
  resolved := Array.replicate 131 none
  statics := none }

def pool17 : Array CpInfo := pool [(2, .class_ 4), (1, u "java/lang/Object"), (0, u "<init>"), (0, u "()V"), (3, .class_ 12), (1, u "java/lang/String"), (0, u "value"), (0, u "[B"), (2, u "coder"), (0, u "B"), (2, u "hash"), (0, u "I"), (2, u "hashIsZero"), (0, u "Z"), (13, u "COMPACT_STRINGS"), (534, .class_ 576), (0, u "java/lang/CharSequence"), (22, u "CASE_INSENSITIVE_ORDER"), (0, u "Ljava/util/Comparator;"), (500, u "serialPersistentFields"), (0, u "[Ljava/io/ObjectStreamField;"), (0, .class_ 1104), (0, u "java/lang/String$CaseInsensitiveComparator"), (1, .class_ 1107), (0, u "java/io/Serializable"), (0, .class_ 1109), (0, u "java/lang/Comparable"), (0, .class_ 1111), (0, u "java/lang/constant/Constable"), (0, .class_ 1113), (0, u "java/lang/constant/ConstantDesc"), (2, u "serialVersionUID"), (0, u "J"), (3, u "REPL"), (0, u "C"), (2, u "LATIN1"), (1, u "UTF16")] 323

def k17m0 : Method := { name := "<init>", desc := "()V", sig := { parameters := [], returnType := none }, accessFlags := 1, code := none }
/-- java/lang/String -/
def k17 : Class := { plain "java/lang/String" (some 0) with
  accessFlags := 49
  interfaces := #[5, 7, 16, 8, 9]
  cf := some (fileOf pool17 10 #[.nestMembers #[1103]] #[{ accessFlags := 1, nameIndex := 5, descriptorIndex := 6, attributes := #[] }] 49 2 #[1106, 1108, 575, 1110, 1112] #[{ accessFlags := 18, nameIndex := 13, descriptorIndex := 14, attributes := #[] }, { accessFlags := 18, nameIndex := 17, descriptorIndex := 18, attributes := #[] }, { accessFlags := 2, nameIndex := 21, descriptorIndex := 22, attributes := #[] }, { accessFlags := 2, nameIndex := 25, descriptorIndex := 26, attributes := #[] }, { accessFlags := 26, nameIndex := 1116, descriptorIndex := 1117, attributes := #[] }, { accessFlags := 24, nameIndex := 40, descriptorIndex := 26, attributes := #[] }, { accessFlags := 26, nameIndex := 1101, descriptorIndex := 1102, attributes := #[] }, { accessFlags := 26, nameIndex := 1121, descriptorIndex := 1122, attributes := #[] }, { accessFlags := 25, nameIndex := 599, descriptorIndex := 600, attributes := #[] }, { accessFlags := 24, nameIndex := 1125, descriptorIndex := 18, attributes := #[] }, { accessFlags := 24, nameIndex := 1127, descriptorIndex := 18, attributes := #[] }])
  fields := #[{ name := "value", type := (.array .byte), accessFlags := 18, slot := 0, constantValue := 0 }, { name := "coder", type := .byte, accessFlags := 18, slot := 1, constantValue := 0 }, { name := "hash", type := .int, accessFlags := 2, slot := 2, constantValue := 0 }, { name := "hashIsZero", type := .boolean, accessFlags := 2, slot := 3, constantValue := 0 }, { name := "serialVersionUID", type := .long, accessFlags := 26, slot := 0, constantValue := 0 }, { name := "COMPACT_STRINGS", type := .boolean, accessFlags := 24, slot := 1, constantValue := 0 }, { name := "serialPersistentFields", type := (.array (.object "java/io/ObjectStreamField")), accessFlags := 26, slot := 2, constantValue := 0 }, { name := "REPL", type := .char, accessFlags := 26, slot := 3, constantValue := 0 }, { name := "CASE_INSENSITIVE_ORDER", type := (.object "java/util/Comparator"), accessFlags := 25, slot := 4, constantValue := 0 }, { name := "LATIN1", type := .byte, accessFlags := 24, slot := 5, constantValue := 0 }, { name := "UTF16", type := .byte, accessFlags := 24, slot := 6, constantValue := 0 }]
  methods := #[k17m0]
  instanceTypes := #[(.array .byte), .byte, .int, .boolean]
  staticTypes := #[.long, .boolean, (.array (.object "java/io/ObjectStreamField")), .char, (.object "java/util/Comparator"), .byte, .byte]
  resolved := Array.replicate 1451 none
  statics := none }

def pool18 : Array CpInfo := pool [(2, .class_ 4), (1, u "java/lang/Object"), (0, u "<init>"), (0, u "()V"), (0, .methodref 8 9), (0, .class_ 10), (0, .nameAndType 11 12), (0, u "java/util/Objects"), (0, u "requireNonNull"), (0, u "(Ljava/lang/Object;Ljava/lang/String;)Ljava/lang/Object;"), (0, .methodref 14 15), (0, .class_ 16), (0, .nameAndType 17 18), (0, u "java/time/Duration"), (0, u "ofMillis"), (0, u "(J)Ljava/time/Duration;"), (0, .methodref 14 20), (0, .nameAndType 21 22), (0, u "compareTo"), (0, u "(Ljava/time/Duration;)I"), (0, .methodref 14 24), (0, .nameAndType 25 26), (0, u "getNano"), (0, u "()I"), (0, .class_ 28), (0, u "com/example/even_bucket/evenbucket/Durations"), (0, .long 1000000), (16, u "NANOS_PER_MILLI"), (0, u "J"), (3, u "requirePositiveWholeMillis"), (0, u "(Ljava/time/Duration;Ljava/lang/String;)Ljava/time/Duration;")] 18

def k18m0 : Method := { name := "<init>", desc := "()V", sig := { parameters := [], returnType := none }, accessFlags := 2, code := none }
def k18c1 : Code := { maxStack := 4, maxLocals := 2, code := prog_20_method_2_code, exceptionTable := #[], attributes := #[] }
def k18m1 : Method := { name := "requirePositiveWholeMillis", desc := "(Ljava/time/Duration;Ljava/lang/String;)Ljava/time/Duration;", sig := { parameters := [(.object "java/time/Duration"), (.object "java/lang/String")], returnType := some (.object "java/time/Duration") }, accessFlags := 8, code := some k18c1 }
/-- com/example/even_bucket/evenbucket/Durations -/
def k18 : Class := { plain "com/example/even_bucket/evenbucket/Durations" (some 0) with
  accessFlags := 32
  interfaces := #[]
  cf := some (fileOf pool18 27 #[] #[{ accessFlags := 2, nameIndex := 5, descriptorIndex := 6, attributes := #[] }, { accessFlags := 8, nameIndex := 51, descriptorIndex := 52, attributes := #[] }] 32 2 #[] #[{ accessFlags := 26, nameIndex := 46, descriptorIndex := 47, attributes := #[] }])
  fields := #[{ name := "NANOS_PER_MILLI", type := .long, accessFlags := 26, slot := 0, constantValue := 0 }]
  methods := #[k18m0, k18m1]
  instanceTypes := #[]
  staticTypes := #[.long]
  resolved := Array.replicate 71 none
  statics := none }

def pool19 : Array CpInfo := pool [(2, .class_ 4), (1, u "java/lang/Object"), (0, u "<init>"), (0, u "()V"), (35, .class_ 44), (1, u "java/util/Objects"), (0, u "requireNonNull"), (48, u "(Ljava/lang/Object;Ljava/lang/String;)Ljava/lang/Object;")] 89

def k19m0 : Method := { name := "<init>", desc := "()V", sig := { parameters := [], returnType := none }, accessFlags := 2, code := none }
def k19c1 : Code := { maxStack := 3, maxLocals := 2, code := jdk_31_method_11_code, exceptionTable := #[], attributes := #[] }
def k19m1 : Method := { name := "requireNonNull", desc := "(Ljava/lang/Object;Ljava/lang/String;)Ljava/lang/Object;", sig := { parameters := [(.object "java/lang/Object"), (.object "java/lang/String")], returnType := some (.object "java/lang/Object") }, accessFlags := 9, code := some k19c1 }
/-- java/util/Objects -/
def k19 : Class := { plain "java/util/Objects" (some 0) with
  accessFlags := 49
  interfaces := #[]
  cf := some (fileOf pool19 42 #[] #[{ accessFlags := 2, nameIndex := 5, descriptorIndex := 6, attributes := #[] }, { accessFlags := 9, nameIndex := 45, descriptorIndex := 94, attributes := #[] }] 49 2 #[] #[])
  fields := #[]
  methods := #[k19m0, k19m1]
  instanceTypes := #[]
  staticTypes := #[]
  resolved := Array.replicate 184 none
  statics := none }

def pool20 : Array CpInfo := pool [(1, u "java/lang/Cloneable"), (0, .class_ 1), (0, u "java/lang/Object"), (0, .class_ 3)] 3

/-- java/lang/Cloneable -/
def k20 : Class := { plain "java/lang/Cloneable" (some 0) with
  accessFlags := 1537
  interfaces := #[]
  cf := some (fileOf pool20 2 #[] #[] 1537 4 #[] #[])
  fields := #[]
  methods := #[]
  instanceTypes := #[]
  staticTypes := #[]
  resolved := Array.replicate 8 none
  statics := none }

/-- the primitive byte -/
def k21 : Class := { plain "byte" none with kind := .primitive 'B', accessFlags := 0x411 }
/-- [B -/
def k22 : Class := { plain "[B" (some 0) with kind := .array 21 .byte, interfaces := #[20, 5], accessFlags := 1041 }

/-- the primitive int -/
def k23 : Class := { plain "int" none with kind := .primitive 'I', accessFlags := 0x411 }
/-- [I -/
def k24 : Class := { plain "[I" (some 0) with kind := .array 23 .int, interfaces := #[20, 5], accessFlags := 1041 }

def heap : Heap := #[{ cls := 13, slots := #[.ref 1, .long 0, .null], vm := .statics 13 },
  { cls := 13, slots := #[.long 0, .int 0], vm := .none }]
def classes : Array Class := #[k0, k1, k2, k3, k4, k5, k6, k7, k8, k9, k10, k11, k12, k13, k14, k15, k16, k17, k18, k19, k20, k21, k22, k23, k24]
def interned : List (Array UInt16 × Addr) := []
def slotsUsed : Nat := 5
def theMethod : MethodId := ⟨1, 1⟩
def args0 : Array Value := #[.int 77, .int 99, .long 3, .long 5, .int 4, .int 9]
def aboutOver (below : List Frame) : State where
  vm := { classes := classes, interned := interned.toArray }
  heap := heap
  slotsUsed := slotsUsed
  threads := #[{ frames := .invoking theMethod args0 :: below }]
def below0 : List Frame := [.native { method := ⟨0, 0⟩, args := #[] }]
def about1 : State := aboutOver below0
def p0 : Program := .bare "" "" ""
def e0 : Env := launch0.env 0 0 0
theorem w_frames : about1.frames = Frame.invoking theMethod args0 :: below0 := rfl
set_option maxRecDepth 65536 in
theorem w_args : argsFit about1.vm theMethod args0 = true := by decide +kernel
set_option maxRecDepth 65536 in
theorem w_heap : heapFits about1 = true := by decide +kernel
set_option maxRecDepth 65536 in
theorem w_runnable : about1.curStatus? = some .runnable := by decide +kernel
set_option maxRecDepth 65536 in
theorem w_alone : about1.alone = true := by decide +kernel
set_option maxRecDepth 65536 in
theorem w_named : about1.methodNamed? x = some theMethod := by decide +kernel
set_option maxRecDepth 65536 in
theorem w_hears : about1.hears theMethod below0 = true := by decide +kernel
set_option maxRecDepth 65536 in
theorem w_ripe : about1.ripe theMethod args0 below0 = true := by decide +kernel
theorem w_running : about1.status = .running := rfl
set_option maxRecDepth 65536 in
theorem w_room : about1.hasRoom e0.platform room_1 = true :=
  launch0.hasRoom_least _ room_1 (by decide +kernel) (by decide +kernel) (by decide +kernel) (by decide +kernel) (by decide +kernel) (by decide +kernel)
theorem allAtoms_all (ts : List Jvm.Cond) (a : Array Jvm.Value) (st : Jvm.State) : (allAtoms ts).before a st = ts.all (fun c => c.before a st) := by
  induction ts with
  | nil => rfl
  | cons c t ih =>
    show (Jvm.Cond.and c (allAtoms t)).before a st = _
    rw [Jvm.Cond.before_and, ih, List.all_cons]
def words1 : List Jvm.Cond := Jvm.Cond.code x code maxLocals ret :: tables_1
/-- a 'code' word, met by the world's own term for the bytes: nothing is compared byte by byte -/
theorem code_word {y : MethodName} {bytes : ByteArray} {mx : Nat} {rt : Option FieldType} {a : Array Value} {s : State} {m : MethodId} {meth : Method} {c : Code} (h1 : s.methodNamed? y = some m) (h2 : s.vm.method? m = some meth) (h3 : meth.code = some c) (h4 : c.code = bytes)
    (h5 : (c.maxLocals == mx && c.exceptionTable.isEmpty && decide (c.maxStack ≤ mostOperands) && decide (meth.sig.returnType = rt) && !meth.locks && decide (parseMethodDescriptor y.desc = some meth.sig)) = true) : (Jvm.Cond.code y bytes mx rt).before a s = true := by
  simp only [Bool.and_eq_true, beq_iff_eq, Bool.not_eq_true', decide_eq_true_eq] at h5
  obtain ⟨⟨⟨⟨⟨g1, g2⟩, g3⟩, g4⟩, g5⟩, g6⟩ := h5
  simp [Cond.before, Cond.holds, Cond.value, h1, h2, h3, h4, g1, g2, g3, g4, g5, g6]
def isCode : Jvm.Cond → Bool
  | .code _ _ _ _ => true
  | _ => false
theorem all_split {L : List Jvm.Cond} {P : Jvm.Cond → Bool} (h1 : L.all (fun c => isCode c || P c) = true) (h2 : ∀ c ∈ L.filter isCode, P c = true) : L.all P = true := by
  refine List.all_eq_true.mpr fun c hc => ?_
  have h := List.all_eq_true.mp h1 c hc
  rcases Bool.eq_false_or_eq_true (isCode c) with hi | hi
  · exact h2 c (List.mem_filter.mpr ⟨hc, hi⟩)
  · simpa [hi] using h
set_option maxRecDepth 65536 in
theorem w_c0 : (Jvm.Cond.code x code maxLocals ret).before args0 about1 = true := code_word (m := ⟨1, 1⟩) (meth := k1m1) (c := k1c1) (by decide +kernel) rfl rfl rfl (by decide +kernel)
set_option maxRecDepth 65536 in
theorem w_c1 : (Jvm.Cond.code ({ cls := "java/lang/Math", name := "max", desc := "(II)I" } : Jvm.MethodName) jdk_29_method_65_code (2 : Nat) (Option.some Jvm.ClassFile.FieldType.int)).before args0 about1 = true := code_word (m := ⟨2, 1⟩) (meth := k2m1) (c := k2c1) (by decide +kernel) rfl rfl rfl (by decide +kernel)
set_option maxRecDepth 65536 in
theorem w_c2 : (Jvm.Cond.code ({ cls := "java/lang/Math", name := "max", desc := "(JJ)J" } : Jvm.MethodName) jdk_29_method_66_code (4 : Nat) (Option.some Jvm.ClassFile.FieldType.long)).before args0 about1 = true := code_word (m := ⟨2, 2⟩) (meth := k2m2) (c := k2c2) (by decide +kernel) rfl rfl rfl (by decide +kernel)
set_option maxRecDepth 65536 in
theorem w_c3 : (Jvm.Cond.code ({ cls := "com/example/even_bucket/evenbucket/IntervalBucket", name := "<init>", desc := "(IIJ)V" } : Jvm.MethodName) prog_33_method_1_code (5 : Nat) (Option.none : Option Jvm.ClassFile.FieldType)).before args0 about1 = true := code_word (m := ⟨4, 0⟩) (meth := k4m0) (c := k4c0) (by decide +kernel) rfl rfl rfl (by decide +kernel)
set_option maxRecDepth 65536 in
theorem w_c4 : (Jvm.Cond.code ({ cls := "java/lang/Object", name := "<init>", desc := "()V" } : Jvm.MethodName) object_method_1_code (1 : Nat) (Option.none : Option Jvm.ClassFile.FieldType)).before args0 about1 = true := code_word (m := ⟨0, 0⟩) (meth := k0m0) (c := k0c0) (by decide +kernel) rfl rfl rfl (by decide +kernel)
set_option maxRecDepth 65536 in
theorem w_c5 : (Jvm.Cond.code ({ cls := "com/example/even_bucket/evenbucket/IntervalBucket", name := "tryAcquire", desc := "(J)Lcom/example/even_bucket/evenbucket/Decision;" } : Jvm.MethodName) prog_33_method_3_code (7 : Nat) (Option.some (Jvm.ClassFile.FieldType.object "com/example/even_bucket/evenbucket/Decision"))).before args0 about1 = true := code_word (m := ⟨4, 2⟩) (meth := k4m2) (c := k4c2) (by decide +kernel) rfl rfl rfl (by decide +kernel)
set_option maxRecDepth 65536 in
theorem w_c6 : (Jvm.Cond.code ({ cls := "com/example/even_bucket/evenbucket/IntervalBucket", name := "permitsAt", desc := "(J)J" } : Jvm.MethodName) prog_33_method_8_code (7 : Nat) (Option.some Jvm.ClassFile.FieldType.long)).before args0 about1 = true := code_word (m := ⟨4, 5⟩) (meth := k4m5) (c := k4c5) (by decide +kernel) rfl rfl rfl (by decide +kernel)
set_option maxRecDepth 65536 in
theorem w_c7 : (Jvm.Cond.code ({ cls := "com/example/even_bucket/evenbucket/IntervalBucket", name := "periodsTo", desc := "(J)J" } : Jvm.MethodName) prog_33_method_9_code (3 : Nat) (Option.some Jvm.ClassFile.FieldType.long)).before args0 about1 = true := code_word (m := ⟨4, 6⟩) (meth := k4m6) (c := k4c6) (by decide +kernel) rfl rfl rfl (by decide +kernel)
set_option maxRecDepth 65536 in
theorem w_c8 : (Jvm.Cond.code ({ cls := "java/lang/Long", name := "divideUnsigned", desc := "(JJ)J" } : Jvm.MethodName) jdk_35_method_44_code (8 : Nat) (Option.some Jvm.ClassFile.FieldType.long)).before args0 about1 = true := code_word (m := ⟨10, 2⟩) (meth := k10m2) (c := k10c2) (by decide +kernel) rfl rfl rfl (by decide +kernel)
set_option maxRecDepth 65536 in
theorem w_c9 : (Jvm.Cond.code ({ cls := "java/lang/Long", name := "compareUnsigned", desc := "(JJ)I" } : Jvm.MethodName) jdk_35_method_43_code (4 : Nat) (Option.some Jvm.ClassFile.FieldType.int)).before args0 about1 = true := code_word (m := ⟨10, 1⟩) (meth := k10m1) (c := k10c1) (by decide +kernel) rfl rfl rfl (by decide +kernel)
set_option maxRecDepth 65536 in
theorem w_c10 : (Jvm.Cond.code ({ cls := "java/lang/Long", name := "compare", desc := "(JJ)I" } : Jvm.MethodName) jdk_35_method_42_code (4 : Nat) (Option.some Jvm.ClassFile.FieldType.int)).before args0 about1 = true := code_word (m := ⟨10, 0⟩) (meth := k10m0) (c := k10c0) (by decide +kernel) rfl rfl rfl (by decide +kernel)
set_option maxRecDepth 65536 in
theorem w_c11 : (Jvm.Cond.code ({ cls := "com/example/even_bucket/evenbucket/Decision", name := "allow", desc := "(J)Lcom/example/even_bucket/evenbucket/Decision;" } : Jvm.MethodName) prog_19_method_2_code (2 : Nat) (Option.some (Jvm.ClassFile.FieldType.object "com/example/even_bucket/evenbucket/Decision"))).before args0 about1 = true := code_word (m := ⟨11, 1⟩) (meth := k11m1) (c := k11c1) (by decide +kernel) rfl rfl rfl (by decide +kernel)
set_option maxRecDepth 65536 in
theorem w_c12 : (Jvm.Cond.code ({ cls := "com/example/even_bucket/evenbucket/Decision", name := "<init>", desc := "(JLjava/time/Duration;Z)V" } : Jvm.MethodName) prog_19_method_1_code (5 : Nat) (Option.none : Option Jvm.ClassFile.FieldType)).before args0 about1 = true := code_word (m := ⟨11, 0⟩) (meth := k11m0) (c := k11c0) (by decide +kernel) rfl rfl rfl (by decide +kernel)
set_option maxRecDepth 65536 in
theorem w_c13 : (Jvm.Cond.code ({ cls := "com/example/even_bucket/evenbucket/IntervalBucket", name := "recordAtLatestDecision", desc := "(I)V" } : Jvm.MethodName) prog_33_method_6_code (2 : Nat) (Option.none : Option Jvm.ClassFile.FieldType)).before args0 about1 = true := code_word (m := ⟨4, 4⟩) (meth := k4m4) (c := k4c4) (by decide +kernel) rfl rfl rfl (by decide +kernel)
set_option maxRecDepth 65536 in
theorem w_c14 : (Jvm.Cond.code ({ cls := "com/example/even_bucket/evenbucket/IntervalBucket", name := "moment", desc := "()Lcom/example/even_bucket/evenbucket/Admissions$Moment;" } : Jvm.MethodName) prog_33_method_5_code (1 : Nat) (Option.some (Jvm.ClassFile.FieldType.object "com/example/even_bucket/evenbucket/Admissions$Moment"))).before args0 about1 = true := code_word (m := ⟨4, 3⟩) (meth := k4m3) (c := k4c3) (by decide +kernel) rfl rfl rfl (by decide +kernel)
set_option maxRecDepth 65536 in
theorem w_c15 : (Jvm.Cond.code ({ cls := "com/example/even_bucket/evenbucket/IntervalBucket", name := "refusalAt", desc := "(J)Lcom/example/even_bucket/evenbucket/Decision;" } : Jvm.MethodName) prog_33_method_10_code (3 : Nat) (Option.some (Jvm.ClassFile.FieldType.object "com/example/even_bucket/evenbucket/Decision"))).before args0 about1 = true := code_word (m := ⟨4, 7⟩) (meth := k4m7) (c := k4c7) (by decide +kernel) rfl rfl rfl (by decide +kernel)
set_option maxRecDepth 65536 in
theorem w_c16 : (Jvm.Cond.code ({ cls := "com/example/even_bucket/evenbucket/IntervalBucket", name := "untilNextRefill", desc := "(JJ)J" } : Jvm.MethodName) prog_33_method_2_code (4 : Nat) (Option.some Jvm.ClassFile.FieldType.long)).before args0 about1 = true := code_word (m := ⟨4, 1⟩) (meth := k4m1) (c := k4c1) (by decide +kernel) rfl rfl rfl (by decide +kernel)
set_option maxRecDepth 65536 in
theorem w_c17 : (Jvm.Cond.code ({ cls := "java/lang/Long", name := "remainderUnsigned", desc := "(JJ)J" } : Jvm.MethodName) jdk_35_method_45_code (8 : Nat) (Option.some Jvm.ClassFile.FieldType.long)).before args0 about1 = true := code_word (m := ⟨10, 3⟩) (meth := k10m3) (c := k10c3) (by decide +kernel) rfl rfl rfl (by decide +kernel)
set_option maxRecDepth 65536 in
theorem w_c18 : (Jvm.Cond.code ({ cls := "java/time/Duration", name := "ofMillis", desc := "(J)Ljava/time/Duration;" } : Jvm.MethodName) jdk_2316_method_6_code (5 : Nat) (Option.some (Jvm.ClassFile.FieldType.object "java/time/Duration"))).before args0 about1 = true := code_word (m := ⟨13, 0⟩) (meth := k13m0) (c := k13c0) (by decide +kernel) rfl rfl rfl (by decide +kernel)
set_option maxRecDepth 65536 in
theorem w_c19 : (Jvm.Cond.code ({ cls := "java/time/Duration", name := "create", desc := "(JI)Ljava/time/Duration;" } : Jvm.MethodName) jdk_2316_method_16_code (3 : Nat) (Option.some (Jvm.ClassFile.FieldType.object "java/time/Duration"))).before args0 about1 = true := code_word (m := ⟨13, 1⟩) (meth := k13m1) (c := k13c1) (by decide +kernel) rfl rfl rfl (by decide +kernel)
set_option maxRecDepth 65536 in
theorem w_c20 : (Jvm.Cond.code ({ cls := "java/time/Duration", name := "<init>", desc := "(JI)V" } : Jvm.MethodName) jdk_2316_method_17_code (4 : Nat) (Option.none : Option Jvm.ClassFile.FieldType)).before args0 about1 = true := code_word (m := ⟨13, 2⟩) (meth := k13m2) (c := k13c2) (by decide +kernel) rfl rfl rfl (by decide +kernel)
set_option maxRecDepth 65536 in
theorem w_c21 : (Jvm.Cond.code ({ cls := "com/example/even_bucket/evenbucket/Decision", name := "refuse", desc := "(Ljava/time/Duration;)Lcom/example/even_bucket/evenbucket/Decision;" } : Jvm.MethodName) prog_19_method_3_code (1 : Nat) (Option.some (Jvm.ClassFile.FieldType.object "com/example/even_bucket/evenbucket/Decision"))).before args0 about1 = true := code_word (m := ⟨11, 2⟩) (meth := k11m2) (c := k11c2) (by decide +kernel) rfl rfl rfl (by decide +kernel)
set_option maxRecDepth 65536 in
theorem w_c22 : (Jvm.Cond.code ({ cls := "com/example/even_bucket/evenbucket/Durations", name := "requirePositiveWholeMillis", desc := "(Ljava/time/Duration;Ljava/lang/String;)Ljava/time/Duration;" } : Jvm.MethodName) prog_20_method_2_code (2 : Nat) (Option.some (Jvm.ClassFile.FieldType.object "java/time/Duration"))).before args0 about1 = true := code_word (m := ⟨18, 1⟩) (meth := k18m1) (c := k18c1) (by decide +kernel) rfl rfl rfl (by decide +kernel)
set_option maxRecDepth 65536 in
theorem w_c23 : (Jvm.Cond.code ({ cls := "java/util/Objects", name := "requireNonNull", desc := "(Ljava/lang/Object;Ljava/lang/String;)Ljava/lang/Object;" } : Jvm.MethodName) jdk_31_method_11_code (2 : Nat) (Option.some (Jvm.ClassFile.FieldType.object "java/lang/Object"))).before args0 about1 = true := code_word (m := ⟨19, 1⟩) (meth := k19m1) (c := k19c1) (by decide +kernel) rfl rfl rfl (by decide +kernel)
set_option maxRecDepth 65536 in
theorem w_c24 : (Jvm.Cond.code ({ cls := "java/time/Duration", name := "compareTo", desc := "(Ljava/time/Duration;)I" } : Jvm.MethodName) jdk_2316_method_66_code (3 : Nat) (Option.some Jvm.ClassFile.FieldType.int)).before args0 about1 = true := code_word (m := ⟨13, 5⟩) (meth := k13m5) (c := k13c5) (by decide +kernel) rfl rfl rfl (by decide +kernel)
set_option maxRecDepth 65536 in
theorem w_c25 : (Jvm.Cond.code ({ cls := "java/time/Duration", name := "getNano", desc := "()I" } : Jvm.MethodName) jdk_2316_method_24_code (1 : Nat) (Option.some Jvm.ClassFile.FieldType.int)).before args0 about1 = true := code_word (m := ⟨13, 4⟩) (meth := k13m4) (c := k13c4) (by decide +kernel) rfl rfl rfl (by decide +kernel)
set_option maxRecDepth 65536 in
theorem w_c26 : (Jvm.Cond.code ({ cls := "com/example/even_bucket/evenbucket/Admissions$Moment", name := "<init>", desc := "(JIJLcom/example/even_bucket/evenbucket/Decision;)V" } : Jvm.MethodName) prog_12_method_1_code (7 : Nat) (Option.none : Option Jvm.ClassFile.FieldType)).before args0 about1 = true := code_word (m := ⟨15, 0⟩) (meth := k15m0) (c := k15c0) (by decide +kernel) rfl rfl rfl (by decide +kernel)
set_option maxRecDepth 65536 in
theorem w_c27 : (Jvm.Cond.code ({ cls := "java/lang/Record", name := "<init>", desc := "()V" } : Jvm.MethodName) jdk_30_method_1_code (1 : Nat) (Option.none : Option Jvm.ClassFile.FieldType)).before args0 about1 = true := code_word (m := ⟨14, 0⟩) (meth := k14m0) (c := k14c0) (by decide +kernel) rfl rfl rfl (by decide +kernel)
set_option maxRecDepth 65536 in
theorem w_c28 : (Jvm.Cond.code ({ cls := "com/example/even_bucket/evenbucket/Admissions$Moment", name := "free", desc := "()I" } : Jvm.MethodName) prog_12_method_8_code (1 : Nat) (Option.some Jvm.ClassFile.FieldType.int)).before args0 about1 = true := code_word (m := ⟨15, 1⟩) (meth := k15m1) (c := k15c1) (by decide +kernel) rfl rfl rfl (by decide +kernel)
set_option maxRecDepth 65536 in
theorem w_c29 : (Jvm.Cond.code ({ cls := "com/example/even_bucket/evenbucket/Decision", name := "allowed", desc := "()Z" } : Jvm.MethodName) prog_19_method_5_code (1 : Nat) (Option.some Jvm.ClassFile.FieldType.boolean)).before args0 about1 = true := code_word (m := ⟨11, 3⟩) (meth := k11m3) (c := k11c3) (by decide +kernel) rfl rfl rfl (by decide +kernel)
set_option maxRecDepth 65536 in
theorem w_c30 : (Jvm.Cond.code ({ cls := "java/time/Duration", name := "isZero", desc := "()Z" } : Jvm.MethodName) jdk_2316_method_21_code (1 : Nat) (Option.some Jvm.ClassFile.FieldType.boolean)).before args0 about1 = true := code_word (m := ⟨13, 3⟩) (meth := k13m3) (c := k13c3) (by decide +kernel) rfl rfl rfl (by decide +kernel)
set_option maxRecDepth 65536 in
theorem w_c31 : (Jvm.Cond.code ({ cls := "com/example/even_bucket/evenbucket/Decision", name := "remaining", desc := "()J" } : Jvm.MethodName) prog_19_method_6_code (1 : Nat) (Option.some Jvm.ClassFile.FieldType.long)).before args0 about1 = true := code_word (m := ⟨11, 4⟩) (meth := k11m4) (c := k11c4) (by decide +kernel) rfl rfl rfl (by decide +kernel)
def codes1 : List Jvm.Cond := [Jvm.Cond.code x code maxLocals ret, Jvm.Cond.code ({ cls := "java/lang/Math", name := "max", desc := "(II)I" } : Jvm.MethodName) jdk_29_method_65_code (2 : Nat) (Option.some Jvm.ClassFile.FieldType.int), Jvm.Cond.code ({ cls := "java/lang/Math", name := "max", desc := "(JJ)J" } : Jvm.MethodName) jdk_29_method_66_code (4 : Nat) (Option.some Jvm.ClassFile.FieldType.long), Jvm.Cond.code ({ cls := "com/example/even_bucket/evenbucket/IntervalBucket", name := "<init>", desc := "(IIJ)V" } : Jvm.MethodName) prog_33_method_1_code (5 : Nat) (Option.none : Option Jvm.ClassFile.FieldType), Jvm.Cond.code ({ cls := "java/lang/Object", name := "<init>", desc := "()V" } : Jvm.MethodName) object_method_1_code (1 : Nat) (Option.none : Option Jvm.ClassFile.FieldType), Jvm.Cond.code ({ cls := "com/example/even_bucket/evenbucket/IntervalBucket", name := "tryAcquire", desc := "(J)Lcom/example/even_bucket/evenbucket/Decision;" } : Jvm.MethodName) prog_33_method_3_code (7 : Nat) (Option.some (Jvm.ClassFile.FieldType.object "com/example/even_bucket/evenbucket/Decision")), Jvm.Cond.code ({ cls := "com/example/even_bucket/evenbucket/IntervalBucket", name := "permitsAt", desc := "(J)J" } : Jvm.MethodName) prog_33_method_8_code (7 : Nat) (Option.some Jvm.ClassFile.FieldType.long), Jvm.Cond.code ({ cls := "com/example/even_bucket/evenbucket/IntervalBucket", name := "periodsTo", desc := "(J)J" } : Jvm.MethodName) prog_33_method_9_code (3 : Nat) (Option.some Jvm.ClassFile.FieldType.long), Jvm.Cond.code ({ cls := "java/lang/Long", name := "divideUnsigned", desc := "(JJ)J" } : Jvm.MethodName) jdk_35_method_44_code (8 : Nat) (Option.some Jvm.ClassFile.FieldType.long), Jvm.Cond.code ({ cls := "java/lang/Long", name := "compareUnsigned", desc := "(JJ)I" } : Jvm.MethodName) jdk_35_method_43_code (4 : Nat) (Option.some Jvm.ClassFile.FieldType.int), Jvm.Cond.code ({ cls := "java/lang/Long", name := "compare", desc := "(JJ)I" } : Jvm.MethodName) jdk_35_method_42_code (4 : Nat) (Option.some Jvm.ClassFile.FieldType.int), Jvm.Cond.code ({ cls := "com/example/even_bucket/evenbucket/Decision", name := "allow", desc := "(J)Lcom/example/even_bucket/evenbucket/Decision;" } : Jvm.MethodName) prog_19_method_2_code (2 : Nat) (Option.some (Jvm.ClassFile.FieldType.object "com/example/even_bucket/evenbucket/Decision")), Jvm.Cond.code ({ cls := "com/example/even_bucket/evenbucket/Decision", name := "<init>", desc := "(JLjava/time/Duration;Z)V" } : Jvm.MethodName) prog_19_method_1_code (5 : Nat) (Option.none : Option Jvm.ClassFile.FieldType), Jvm.Cond.code ({ cls := "com/example/even_bucket/evenbucket/IntervalBucket", name := "recordAtLatestDecision", desc := "(I)V" } : Jvm.MethodName) prog_33_method_6_code (2 : Nat) (Option.none : Option Jvm.ClassFile.FieldType), Jvm.Cond.code ({ cls := "com/example/even_bucket/evenbucket/IntervalBucket", name := "moment", desc := "()Lcom/example/even_bucket/evenbucket/Admissions$Moment;" } : Jvm.MethodName) prog_33_method_5_code (1 : Nat) (Option.some (Jvm.ClassFile.FieldType.object "com/example/even_bucket/evenbucket/Admissions$Moment")), Jvm.Cond.code ({ cls := "com/example/even_bucket/evenbucket/IntervalBucket", name := "refusalAt", desc := "(J)Lcom/example/even_bucket/evenbucket/Decision;" } : Jvm.MethodName) prog_33_method_10_code (3 : Nat) (Option.some (Jvm.ClassFile.FieldType.object "com/example/even_bucket/evenbucket/Decision")), Jvm.Cond.code ({ cls := "com/example/even_bucket/evenbucket/IntervalBucket", name := "untilNextRefill", desc := "(JJ)J" } : Jvm.MethodName) prog_33_method_2_code (4 : Nat) (Option.some Jvm.ClassFile.FieldType.long), Jvm.Cond.code ({ cls := "java/lang/Long", name := "remainderUnsigned", desc := "(JJ)J" } : Jvm.MethodName) jdk_35_method_45_code (8 : Nat) (Option.some Jvm.ClassFile.FieldType.long), Jvm.Cond.code ({ cls := "java/time/Duration", name := "ofMillis", desc := "(J)Ljava/time/Duration;" } : Jvm.MethodName) jdk_2316_method_6_code (5 : Nat) (Option.some (Jvm.ClassFile.FieldType.object "java/time/Duration")), Jvm.Cond.code ({ cls := "java/time/Duration", name := "create", desc := "(JI)Ljava/time/Duration;" } : Jvm.MethodName) jdk_2316_method_16_code (3 : Nat) (Option.some (Jvm.ClassFile.FieldType.object "java/time/Duration")), Jvm.Cond.code ({ cls := "java/time/Duration", name := "<init>", desc := "(JI)V" } : Jvm.MethodName) jdk_2316_method_17_code (4 : Nat) (Option.none : Option Jvm.ClassFile.FieldType), Jvm.Cond.code ({ cls := "com/example/even_bucket/evenbucket/Decision", name := "refuse", desc := "(Ljava/time/Duration;)Lcom/example/even_bucket/evenbucket/Decision;" } : Jvm.MethodName) prog_19_method_3_code (1 : Nat) (Option.some (Jvm.ClassFile.FieldType.object "com/example/even_bucket/evenbucket/Decision")), Jvm.Cond.code ({ cls := "com/example/even_bucket/evenbucket/Durations", name := "requirePositiveWholeMillis", desc := "(Ljava/time/Duration;Ljava/lang/String;)Ljava/time/Duration;" } : Jvm.MethodName) prog_20_method_2_code (2 : Nat) (Option.some (Jvm.ClassFile.FieldType.object "java/time/Duration")), Jvm.Cond.code ({ cls := "java/util/Objects", name := "requireNonNull", desc := "(Ljava/lang/Object;Ljava/lang/String;)Ljava/lang/Object;" } : Jvm.MethodName) jdk_31_method_11_code (2 : Nat) (Option.some (Jvm.ClassFile.FieldType.object "java/lang/Object")), Jvm.Cond.code ({ cls := "java/time/Duration", name := "compareTo", desc := "(Ljava/time/Duration;)I" } : Jvm.MethodName) jdk_2316_method_66_code (3 : Nat) (Option.some Jvm.ClassFile.FieldType.int), Jvm.Cond.code ({ cls := "java/time/Duration", name := "getNano", desc := "()I" } : Jvm.MethodName) jdk_2316_method_24_code (1 : Nat) (Option.some Jvm.ClassFile.FieldType.int), Jvm.Cond.code ({ cls := "com/example/even_bucket/evenbucket/Admissions$Moment", name := "<init>", desc := "(JIJLcom/example/even_bucket/evenbucket/Decision;)V" } : Jvm.MethodName) prog_12_method_1_code (7 : Nat) (Option.none : Option Jvm.ClassFile.FieldType), Jvm.Cond.code ({ cls := "java/lang/Record", name := "<init>", desc := "()V" } : Jvm.MethodName) jdk_30_method_1_code (1 : Nat) (Option.none : Option Jvm.ClassFile.FieldType), Jvm.Cond.code ({ cls := "com/example/even_bucket/evenbucket/Admissions$Moment", name := "free", desc := "()I" } : Jvm.MethodName) prog_12_method_8_code (1 : Nat) (Option.some Jvm.ClassFile.FieldType.int), Jvm.Cond.code ({ cls := "com/example/even_bucket/evenbucket/Decision", name := "allowed", desc := "()Z" } : Jvm.MethodName) prog_19_method_5_code (1 : Nat) (Option.some Jvm.ClassFile.FieldType.boolean), Jvm.Cond.code ({ cls := "java/time/Duration", name := "isZero", desc := "()Z" } : Jvm.MethodName) jdk_2316_method_21_code (1 : Nat) (Option.some Jvm.ClassFile.FieldType.boolean), Jvm.Cond.code ({ cls := "com/example/even_bucket/evenbucket/Decision", name := "remaining", desc := "()J" } : Jvm.MethodName) prog_19_method_6_code (1 : Nat) (Option.some Jvm.ClassFile.FieldType.long)]
set_option maxRecDepth 65536 in
theorem codes_eq : words1.filter isCode = codes1 := rfl
theorem w_codes : ∀ c ∈ words1.filter isCode, c.before args0 about1 = true := by
  rw [codes_eq]
  intro c hc
  simp only [codes1, List.mem_cons, List.not_mem_nil, or_false] at hc
  rcases hc with rfl | rfl | rfl | rfl | rfl | rfl | rfl | rfl | rfl | rfl | rfl | rfl | rfl | rfl | rfl | rfl | rfl | rfl | rfl | rfl | rfl | rfl | rfl | rfl | rfl | rfl | rfl | rfl | rfl | rfl | rfl | rfl
  · exact w_c0
  · exact w_c1
  · exact w_c2
  · exact w_c3
  · exact w_c4
  · exact w_c5
  · exact w_c6
  · exact w_c7
  · exact w_c8
  · exact w_c9
  · exact w_c10
  · exact w_c11
  · exact w_c12
  · exact w_c13
  · exact w_c14
  · exact w_c15
  · exact w_c16
  · exact w_c17
  · exact w_c18
  · exact w_c19
  · exact w_c20
  · exact w_c21
  · exact w_c22
  · exact w_c23
  · exact w_c24
  · exact w_c25
  · exact w_c26
  · exact w_c27
  · exact w_c28
  · exact w_c29
  · exact w_c30
  · exact w_c31
set_option maxRecDepth 65536 in
theorem w_t1 : (words1.take 24).all (fun c => isCode c || c.before args0 about1) = true := by decide +kernel
set_option maxRecDepth 65536 in
theorem w_t2 : ((words1.drop 24).take 24).all (fun c => isCode c || c.before args0 about1) = true := by decide +kernel
set_option maxRecDepth 65536 in
theorem w_t3 : (((words1.drop 24).drop 24).take 24).all (fun c => isCode c || c.before args0 about1) = true := by decide +kernel
set_option maxRecDepth 65536 in
theorem w_t4 : ((((words1.drop 24).drop 24).drop 24).take 24).all (fun c => isCode c || c.before args0 about1) = true := by decide +kernel
set_option maxRecDepth 65536 in
theorem w_t5 : (((((words1.drop 24).drop 24).drop 24).drop 24).take 24).all (fun c => isCode c || c.before args0 about1) = true := by decide +kernel
set_option maxRecDepth 65536 in
theorem w_t6 : ((((((words1.drop 24).drop 24).drop 24).drop 24).drop 24).take 24).all (fun c => isCode c || c.before args0 about1) = true := by decide +kernel
set_option maxRecDepth 65536 in
theorem w_t7 : (((((((words1.drop 24).drop 24).drop 24).drop 24).drop 24).drop 24).take 24).all (fun c => isCode c || c.before args0 about1) = true := by decide +kernel
set_option maxRecDepth 65536 in
theorem w_t8 : (((((((words1.drop 24).drop 24).drop 24).drop 24).drop 24).drop 24).drop 24).all (fun c => isCode c || c.before args0 about1) = true := by decide +kernel
theorem w_tables : (allAtoms (Jvm.Cond.code x code maxLocals ret :: tables_1)).before args0 about1 = true := by
  rw [allAtoms_all]
  show words1.all (fun c => c.before args0 about1) = true
  refine all_split ?_ w_codes
  rw [← List.take_append_drop 24 words1, List.all_append, w_t1, ← List.take_append_drop 24 (words1.drop 24), List.all_append, w_t2, ← List.take_append_drop 24 ((words1.drop 24).drop 24), List.all_append, w_t3, ← List.take_append_drop 24 (((words1.drop 24).drop 24).drop 24), List.all_append, w_t4, ← List.take_append_drop 24 ((((words1.drop 24).drop 24).drop 24).drop 24), List.all_append, w_t5, ← List.take_append_drop 24 (((((words1.drop 24).drop 24).drop 24).drop 24).drop 24), List.all_append, w_t6, ← List.take_append_drop 24 ((((((words1.drop 24).drop 24).drop 24).drop 24).drop 24).drop 24), List.all_append, w_t7, w_t8]
  rfl
set_option maxRecDepth 65536 in
theorem w_rest : rest_1_c.before args0 about1 = true := by decide +kernel
set_option maxRecDepth 65536 in
theorem w_case : (Jvm.Cond.and given_1 narrow_1).before args0 about1 = true := by decide +kernel
theorem w_applies : (headSpec (Jvm.Cond.code x code maxLocals ret :: tables_1) room_1).applies x e0.platform about1 = true :=
  (Spec.applies_iff w_frames).mpr ⟨w_running, w_runnable, w_alone, w_named, w_hears, w_ripe, w_room, w_tables⟩
theorem atStart : AtStart classFile x code maxLocals ret World_1 tables_1 room_1 Calls_1 rest_1 Pre_1 launch0 p0 e0 about1 theMethod args0 below0 :=
  ⟨lists_1, trivial, launch0.admits_env _ _ _, launch0.least_env, fairChoices_fair.cas, fairChoices_fair.clock, w_frames, w_args, w_heap, w_applies, trivial, w_rest, w_case⟩
end start1
theorem witness_1 : WitnessClaimed_1 := ⟨start1.p0, start1.e0, start1.about1, start1.theMethod, start1.args0, start1.below0, start1.atStart⟩
end Jvm.Pilot.@@N@@
