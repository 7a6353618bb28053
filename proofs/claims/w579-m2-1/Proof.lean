import JvmDerived
import JvmDerived.Pilot.@@N@@Statement
import JvmDerived.Pilot.@@N@@Code
set_option linter.unusedVariables false
set_option linter.unusedSimpArgs false
namespace Jvm.RoadKit
open Sem ClassFile Op Lib Jvm.Stand Jvm.Free Jvm.LawKit
section New
variable {p : Program} {l : Launch} {e : Env} {R : Room} {s : State} {m : MethodId} {args : Array Value} {below : List Frame} {meth : Method} {c : Code} {T : State} {locs : List Loc} {cells slots : Nat}
theorem retI (X : Stand p l e R s m args below meth c T locs cells slots) (hx : p.tables.exec = Jvm.exec) {pc : Nat} {Ls : Array Slot} {z : Int32} {rest : List Value} (hret : meth.sig.returnType = some .int) (hd : decode c.code pc = .ok (.ireturn, 1)) {fs : List Frame}
    (hl : ∀ (f : JFrame) (acts : List Action), f.method = m → f.locked = none → f.entered = [] → (doReturn e (T.setTop f) acts (some (.int z))).1 = T.setFrames fs) : Steps p.tables e below (T.setTop (mkF m pc Ls (.int z :: rest))) (T.setFrames fs) := by
  have hm' : T.vm.method? m = some meth := X.method'
  have hn : narrow .int (.int z) = .int z := rfl
  show Steps p.tables e below (T.setTop { method := m, pc := pc, locals := Ls, stack := _ :: rest, locked := none }) _
  jvm_step X.here [X.here.top, hx, hd, hm', hret, hn]
  first | (intro acts; rw [hl _ acts rfl rfl rfl]) | rw [hl _ _ rfl rfl rfl]
  exact Steps.refl _
end New
end Jvm.RoadKit
@@BLOCK:HandJ.lean.txt@@
@@BLOCK:NumsL.lean.txt@@
@@BLOCK:SymMore.lean.txt@@
namespace Jvm.Pilot.@@N@@
open Jvm Jvm.ClassFile Sem Op Lib Jvm.Free Jvm.Stand Jvm.LawKit Jvm.RoadKit Bundle Jvm.Pilot.@@N@@.Jvm.D
theorem own_sta_keep {Z : State} {h h' : Heap} {C n d : String} {v : Value} (S : Sta Z h C n d v) (K : Keep h h' []) : Sta Z h' C n d v := by
  obtain ⟨cf, i, k, f, st, cell, h1, h2, h3, h4, h5, r⟩ := S
  exact ⟨cf, i, k, f, st, cell, h1, h2, h3, h4, K.2.1 _ _ h5 List.not_mem_nil, r⟩
theorem own_sta_keepw {Z : State} {h h' : Heap} {C n d : String} {v : Value} {ws : List Addr} (S : Sta Z h C n d v) (K : Keep h h' ws) (q : ∀ x ∈ ws, ∃ c : Cell, h[x]? = some c ∧ c.vm.isStatics = false) : Sta Z h' C n d v := by
  obtain ⟨cf, i, k, f, st, cell, h1, h2, h3, h4, h5, h6, r⟩ := S
  refine ⟨cf, i, k, f, st, cell, h1, h2, h3, h4, K.2.1 _ _ h5 (fun hm => ?_), h6, r⟩
  obtain ⟨c, q1, q2⟩ := q _ hm
  cases q1.symm.trans h5
  rw [q2] at h6; cases h6
theorem own_plain {Z : State} {h : Heap} {a : Addr} {C : String} (E : Exa Z h a C) : ∃ c : Cell, h[a]? = some c ∧ c.vm.isStatics = false := by
  obtain ⟨c, k, h1, -, -, h4, -⟩ := E
  exact ⟨c, h1, h4⟩
theorem own_plainV {Z : State} {h : Heap} {a : Addr} {k : ClassId} {ty : FieldType} {z : Int32} {vs : List Value} {d : Value} (V : Arv Z h a k ty z vs d) : ∃ c : Cell, h[a]? = some c ∧ c.vm.isStatics = false := by
  obtain ⟨c, A, -⟩ := V
  exact ⟨c, A.1, A.plain⟩

theorem d1_0 : decode jdk_29_method_65_code 0 = .ok (.iload_n 0, 1) := by decide +kernel
theorem d1_1 : decode jdk_29_method_65_code 1 = .ok (.iload_n 1, 1) := by decide +kernel
theorem d1_2 : decode jdk_29_method_65_code 2 = .ok (.if_icmp .lt 7, 3) := by decide +kernel
theorem d1_9 : decode jdk_29_method_65_code 9 = .ok (.iload_n 1, 1) := by decide +kernel
theorem d1_10 : decode jdk_29_method_65_code 10 = .ok (.ireturn, 1) := by decide +kernel
theorem d1_5 : decode jdk_29_method_65_code 5 = .ok (.iload_n 0, 1) := by decide +kernel
theorem d1_6 : decode jdk_29_method_65_code 6 = .ok (.goto 4, 3) := by decide +kernel
def f_max (p0 : Int32) (p1 : Int32) : Int32 := (if p0 < p1 then p1 else p0)
theorem ef1 (m : MethodId) (x0 : Int32) (x1 : Int32) : entryFrame m #[(.int x0), (.int x1)] 2 = mkF m 0 #[.val (.int x0), .val (.int x1)] [] := by first | (simp [entryFrame, mkF, argsToLocals, Value.category]; done) | rfl
def Q1 (Z : State) (p0 : Int32) (p1 : Int32) (h0 : Heap) (n0 : Nat) (v : Option Value) (h : Heap) (L : List Loc) : Prop := v = some (.int (f_max p0 p1)) ∧ Fr n0 L ∧ h = h0
set_option maxRecDepth 65536 in
set_option maxHeartbeats 40000000 in
theorem rm1 (l : Launch) (Z : State) (a0 : Array Value) (hw : ∀ d ∈ tables_1, d.before a0 Z = true) (ws : List Jvm.Cond) (p0 : Int32) (p1 : Int32) (h0 : Heap) (n0 : Nat) (Z0 : n0 ≤ h0.size) :
    MetFree l (⟨"java/lang/Math", "max", "(II)I"⟩ : MethodName) (head1 (Jvm.Cond.code (⟨"java/lang/Math", "max", "(II)I"⟩ : MethodName) jdk_29_method_65_code 2 (some .int) :: ws) ({ frames := 0, cells := 0, slots := 0, locals := 0 } : Room)) (fun a U => a = #[(.int p0), (.int p1)] ∧ Z.Warmed39 U.vm ∧ U.heap = h0) (fun _ _ _ _ _ => True) (fun _ U o U' => ∃ v L, o = .returned v ∧ Q1 Z p0 p1 h0 n0 v U'.heap L ∧ FrameEnd U o U' L ({ frames := 0, cells := 0, slots := 0, locals := 0 } : Room).cells ({ frames := 0, cells := 0, slots := 0, locals := 0 } : Room).slots) := by
  refine MetFree.of_bodySF (Jvm.Free.JP.mathPlain rfl (by decide +kernel)) hisR ?_
  intro p e s m args below meth c s₁ Bd hml0 hP hK
  obtain ⟨rfl, hZ, hh⟩ := hP
  have hx := Bd.exec
  have hby := Bd.bytes
  have hml : c.maxLocals = 2 := hml0
  have hown : s.vm.findClass "java/lang/Math" = some m.cls := findClass_of_methodNamed Bd.named
  have hnm := (name_of_methodNamed Bd.named Bd.method).1
  have X0 : Stand p l e ({ frames := 0, cells := 0, slots := 0, locals := 0 } : Room) s m #[(.int p0), (.int p1)] below meth c s₁ [] 0 0 := Stand.of_body Bd
  have e0 : s₁.heap = h0 := by rw [← hh, Bd.state]; rfl
  have N0 := Fr.nil n0
  have pre0 : ∀ t, Steps p.tables e below (s₁.setTop (mkF m 0 #[.val (.int p0), .val (.int p1)] [])) t → Steps p.tables e below (s₁.setTop (entryFrame m #[(.int p0), (.int p1)] 2)) t := fun t k => castTop (ef1 m p0 p1) k
  have S1 : ∀ t, Steps p.tables e below (s₁.setTop (mkF m 2 #[.val (.int p0), .val (.int p1)] [(.int p1), (.int p0)])) t → Steps p.tables e below (s₁.setTop (entryFrame m #[(.int p0), (.int p1)] 2)) t := by
    intro t kt
    refine pre0 _ ?_
    show Steps p.tables e below (s₁.setTop (mkF m 0 #[.val (.int p0), .val (.int p1)] [])) _
    refine XS.iloadN X0.here hx rfl (hb hby d1_0) rfl ?_
    show Steps p.tables e below (s₁.setTop (mkF m 1 #[.val (.int p0), .val (.int p1)] [(.int p0)])) _
    refine XS.iloadN X0.here hx rfl (hb hby d1_1) rfl ?_
    exact kt
  by_cases hc2_2 : p0 < p1
  case pos =>
    obtain ⟨fs, hrT, hrunT, hendT, hWT, hsameT⟩ := X0.leave (hlocks := BodyLoose.notSynchronized Bd) (v := some (.int p1)) (fun h => by rw [Bd.returns] at h; cases h)
    refine ⟨_, _, S1 _ ?_, hrunT, hendT, _, _, rfl, ?_, ⟨_, rfl⟩, hWT, hsameT.mono (by decide) (by decide)⟩
    · show Steps p.tables e below (s₁.setTop (mkF m 2 #[.val (.int p0), .val (.int p1)] [(.int p1), (.int p0)])) _
      refine XS.icmpYes X0.here hx rfl (pc0 := 2) (pc' := 9) rfl (hb hby d1_2) rfl (XT.ii_lt_t hc2_2) (by decide) (by decide) ?_
      show Steps p.tables e below (s₁.setTop (mkF m 9 #[.val (.int p0), .val (.int p1)] [])) _
      refine XS.iloadN X0.here hx rfl (hb hby d1_9) rfl ?_
      show Steps p.tables e below (s₁.setTop (mkF m 10 #[.val (.int p0), .val (.int p1)] [(.int p1)])) _
      exact retI X0 hx Bd.returns (hb hby d1_10) hrT
    · show Q1 Z p0 p1 h0 n0 _ s₁.heap _
      rw [e0]
      have hv : f_max p0 p1 = p1 := by unfold f_max; rw [if_pos hc2_2]
      exact ⟨(congrArg (fun z => some (Value.int z)) hv.symm), N0, rfl⟩
  case neg =>
    obtain ⟨fs, hrT, hrunT, hendT, hWT, hsameT⟩ := X0.leave (hlocks := BodyLoose.notSynchronized Bd) (v := some (.int p0)) (fun h => by rw [Bd.returns] at h; cases h)
    refine ⟨_, _, S1 _ ?_, hrunT, hendT, _, _, rfl, ?_, ⟨_, rfl⟩, hWT, hsameT.mono (by decide) (by decide)⟩
    · show Steps p.tables e below (s₁.setTop (mkF m 2 #[.val (.int p0), .val (.int p1)] [(.int p1), (.int p0)])) _
      refine XS.icmpNo X0.here hx rfl (hb hby d1_2) rfl (XT.ii_lt_f hc2_2) ?_
      show Steps p.tables e below (s₁.setTop (mkF m 5 #[.val (.int p0), .val (.int p1)] [])) _
      refine XS.iloadN X0.here hx rfl (hb hby d1_5) rfl ?_
      show Steps p.tables e below (s₁.setTop (mkF m 6 #[.val (.int p0), .val (.int p1)] [(.int p0)])) _
      refine XS.goto X0.here hx rfl (pc0 := 6) (pc' := 10) rfl (hb hby d1_6) (by decide) (by decide) ?_
      show Steps p.tables e below (s₁.setTop (mkF m 10 #[.val (.int p0), .val (.int p1)] [(.int p0)])) _
      exact retI X0 hx Bd.returns (hb hby d1_10) hrT
    · show Q1 Z p0 p1 h0 n0 _ s₁.heap _
      rw [e0]
      have hv : f_max p0 p1 = p0 := by unfold f_max; rw [if_neg hc2_2]
      exact ⟨(congrArg (fun z => some (Value.int z)) hv.symm), N0, rfl⟩
theorem d2_0 : decode prog_26_method_1_code 0 = .ok (.aload_n 0, 1) := by decide +kernel
theorem d2_1 : decode prog_26_method_1_code 1 = .ok (.invokespecial 1, 3) := by decide +kernel
theorem d2_4 : decode prog_26_method_1_code 4 = .ok (.aload_n 0, 1) := by decide +kernel
theorem d2_5 : decode prog_26_method_1_code 5 = .ok (.iload_n 1, 1) := by decide +kernel
theorem d2_6 : decode prog_26_method_1_code 6 = .ok (.putfield 7, 3) := by decide +kernel
theorem d2_9 : decode prog_26_method_1_code 9 = .ok (.aload_n 0, 1) := by decide +kernel
theorem d2_10 : decode prog_26_method_1_code 10 = .ok (.lload_n 2, 1) := by decide +kernel
theorem d2_11 : decode prog_26_method_1_code 11 = .ok (.putfield 13, 3) := by decide +kernel
theorem d2_14 : decode prog_26_method_1_code 14 = .ok (.aload_n 0, 1) := by decide +kernel
theorem d2_15 : decode prog_26_method_1_code 15 = .ok (.lload 4, 2) := by decide +kernel
theorem d2_17 : decode prog_26_method_1_code 17 = .ok (.putfield 17, 3) := by decide +kernel
theorem d2_20 : decode prog_26_method_1_code 20 = .ok (.aload_n 0, 1) := by decide +kernel
theorem d2_21 : decode prog_26_method_1_code 21 = .ok (.iload_n 1, 1) := by decide +kernel
theorem d2_22 : decode prog_26_method_1_code 22 = .ok (.iconst 1, 1) := by decide +kernel
theorem d2_23 : decode prog_26_method_1_code 23 = .ok (.isub, 1) := by decide +kernel
theorem d2_24 : decode prog_26_method_1_code 24 = .ok (.i2l, 1) := by decide +kernel
theorem d2_25 : decode prog_26_method_1_code 25 = .ok (.lload 4, 2) := by decide +kernel
theorem d2_27 : decode prog_26_method_1_code 27 = .ok (.lmul, 1) := by decide +kernel
theorem d2_28 : decode prog_26_method_1_code 28 = .ok (.putfield 20, 3) := by decide +kernel
theorem d2_31 : decode prog_26_method_1_code 31 = .ok (.return_, 1) := by decide +kernel
theorem pn_GreedyBucket : plainName "com/example/even_bucket/evenbucket/GreedyBucket" = true := by first | (simp [plainName, overriddenIn]; done) | decide +kernel
theorem ef2 (m : MethodId) (x0 : Addr) (x1 : Int32) (x2 : Int64) (x3 : Int64) : entryFrame m #[(.ref x0), (.int x1), (.long x2), (.long x3)] 6 = mkF m 0 #[.val (.ref x0), .val (.int x1), .val (.long x2), .second, .val (.long x3), .second] [] := by first | (simp [entryFrame, mkF, argsToLocals, Value.category]; done) | rfl
def Q2 (Z : State) (r0 : Addr) (p1 : Int32) (q2 : Int64) (q3 : Int64) (h0 : Heap) (n0 : Nat) (v : Option Value) (h : Heap) (L : List Loc) : Prop := v = none ∧ Fr n0 L ∧ Keep h0 h [r0] ∧ Fld Z h r0 "com/example/even_bucket/evenbucket/GreedyBucket" "capacity" "I" (.int p1) ∧ Fld Z h r0 "com/example/even_bucket/evenbucket/GreedyBucket" "unitsPerMilli" "J" (.long q2) ∧ Fld Z h r0 "com/example/even_bucket/evenbucket/GreedyBucket" "unitsPerPermit" "J" (.long q3) ∧ Fld Z h r0 "com/example/even_bucket/evenbucket/GreedyBucket" "mostDeficitWithAPermit" "J" (.long (((p1 - (1 : Int32)).toInt64) * q3)) ∧ Fld Z h r0 "com/example/even_bucket/evenbucket/GreedyBucket" "deficit" "J" (.long (0 : Int64)) ∧ Fld Z h r0 "com/example/even_bucket/evenbucket/GreedyBucket" "newest" "J" (.long (0 : Int64)) ∧ Fld Z h r0 "com/example/even_bucket/evenbucket/GreedyBucket" "admitted" "Z" (.int (0 : Int32)) ∧ Fld Z h r0 "com/example/even_bucket/evenbucket/GreedyBucket" "decidedAt" "J" (.long (0 : Int64))
set_option maxRecDepth 65536 in
set_option maxHeartbeats 40000000 in
theorem rm2 (l : Launch) (Z : State) (a0 : Array Value) (hw : ∀ d ∈ tables_1, d.before a0 Z = true) (ws : List Jvm.Cond) (r0 : Addr) (p1 : Int32) (q2 : Int64) (q3 : Int64) (h0 : Heap) (n0 : Nat) (Z0 : n0 ≤ h0.size) (F0 : Fld Z h0 r0 "com/example/even_bucket/evenbucket/GreedyBucket" "capacity" "I" (.int (0 : Int32))) (F1 : Fld Z h0 r0 "com/example/even_bucket/evenbucket/GreedyBucket" "unitsPerMilli" "J" (.long (0 : Int64))) (F2 : Fld Z h0 r0 "com/example/even_bucket/evenbucket/GreedyBucket" "unitsPerPermit" "J" (.long (0 : Int64))) (F3 : Fld Z h0 r0 "com/example/even_bucket/evenbucket/GreedyBucket" "mostDeficitWithAPermit" "J" (.long (0 : Int64))) (F4 : Fld Z h0 r0 "com/example/even_bucket/evenbucket/GreedyBucket" "deficit" "J" (.long (0 : Int64))) (F5 : Fld Z h0 r0 "com/example/even_bucket/evenbucket/GreedyBucket" "newest" "J" (.long (0 : Int64))) (F6 : Fld Z h0 r0 "com/example/even_bucket/evenbucket/GreedyBucket" "admitted" "Z" (.int (0 : Int32))) (F7 : Fld Z h0 r0 "com/example/even_bucket/evenbucket/GreedyBucket" "decidedAt" "J" (.long (0 : Int64))) (E1 : Exa Z h0 r0 "com/example/even_bucket/evenbucket/GreedyBucket") (g1 : n0 ≤ r0) :
    MetFree l (⟨"com/example/even_bucket/evenbucket/GreedyBucket", "<init>", "(IJJ)V"⟩ : MethodName) (head1 (Jvm.Cond.code (⟨"com/example/even_bucket/evenbucket/GreedyBucket", "<init>", "(IJJ)V"⟩ : MethodName) prog_26_method_1_code 6 none :: ws) ({ frames := 1, cells := 0, slots := 0, locals := 12 } : Room)) (fun a U => a = #[(.ref r0), (.int p1), (.long q2), (.long q3)] ∧ Z.Warmed39 U.vm ∧ U.heap = h0) (fun _ _ _ _ _ => True) (fun _ U o U' => ∃ v L, o = .returned v ∧ Q2 Z r0 p1 q2 q3 h0 n0 v U'.heap L ∧ FrameEnd U o U' L ({ frames := 1, cells := 0, slots := 0, locals := 12 } : Room).cells ({ frames := 1, cells := 0, slots := 0, locals := 12 } : Room).slots) := by
  refine MetFree.of_bodySF (plainFor_of_name pn_GreedyBucket) hisR ?_
  intro p e s m args below meth c s₁ Bd hml0 hP hK
  obtain ⟨rfl, hZ, hh⟩ := hP
  have hx := Bd.exec
  have hby := Bd.bytes
  have hml : c.maxLocals = 6 := hml0
  have hown : s.vm.findClass "com/example/even_bucket/evenbucket/GreedyBucket" = some m.cls := findClass_of_methodNamed Bd.named
  have hnm := (name_of_methodNamed Bd.named Bd.method).1
  have X0 : Stand p l e ({ frames := 1, cells := 0, slots := 0, locals := 12 } : Room) s m #[(.ref r0), (.int p1), (.long q2), (.long q3)] below meth c s₁ [] 0 0 := Stand.of_body Bd
  have e0 : s₁.heap = h0 := by rw [← hh, Bd.state]; rfl
  have N0 := Fr.nil n0
  have pre0 : ∀ t, Steps p.tables e below (s₁.setTop (mkF m 0 #[.val (.ref r0), .val (.int p1), .val (.long q2), .second, .val (.long q3), .second] [])) t → Steps p.tables e below (s₁.setTop (entryFrame m #[(.ref r0), (.int p1), (.long q2), (.long q3)] 6)) t := fun t k => castTop (ef2 m r0 p1 q2 q3) k
  obtain ⟨T3, X3, e3, st3⟩ := initO X0 hx hZ hown (hw _ (List.mem_of_getElem? (i := 14) rfl)) (hw _ (List.mem_of_getElem? (i := 15) rfl)) (hw _ (List.mem_of_getElem? (i := 16) rfl)) e0 (g := (mkF m 1 #[.val (.ref r0), .val (.int p1), .val (.long q2), .second, .val (.long q3), .second] [(.ref r0)])) rfl (by rw [hml]; rfl) rfl (hb hby d2_1) (by decide) (W := 0) (by show 2 * 0 + _ ≤ _; exact Nat.le_of_eq rfl) (by decide)
  obtain ⟨T4, h4, X4, e4, W4, st4⟩ := putF X3 hx hZ hown (host := "") (Or.inl (hw _ (List.mem_of_getElem? (i := 17) rfl))) Via.refl e3 F0 E1 (Or.inr ⟨(hw _ (List.mem_of_getElem? (i := 18) rfl)), rfl, hnm⟩) (hw _ (List.mem_of_getElem? (i := 9) rfl)) (ty := .int) (by decide) rfl rfl (g := (mkF m 6 #[.val (.ref r0), .val (.int p1), .val (.long q2), .second, .val (.long q3), .second] [(.int p1), (.ref r0)])) rfl rfl (hb hby d2_6)
  have K5 : Keep h0 h4 [r0] := (Keep.refl h0 [r0]).wr W4 (Or.inl (List.mem_of_getElem? (i := 0) rfl))
  have c6 : Fld Z h4 r0 "com/example/even_bucket/evenbucket/GreedyBucket" "capacity" "I" (.int p1) := F0.same W4
  have N7 := Fr.snoc X4 N0 g1
  have c8 : Exa Z h4 r0 "com/example/even_bucket/evenbucket/GreedyBucket" := (E1.wr W4)
  have c9 : Fld Z h4 r0 "com/example/even_bucket/evenbucket/GreedyBucket" "unitsPerMilli" "J" (.long (0 : Int64)) := (F1.other W4 (Or.inr (slot_ne (Or.inr (hw _ (List.mem_of_getElem? (i := 20) rfl))) (Or.inr (hw _ (List.mem_of_getElem? (i := 18) rfl))) (by decide) (t := .long) (t' := .int) (by decide) (by decide))))
  obtain ⟨T10, h10, X10, e10, W10, st10⟩ := putF X4 hx hZ hown (host := "") (Or.inl (hw _ (List.mem_of_getElem? (i := 19) rfl))) Via.refl e4 c9 c8 (Or.inr ⟨(hw _ (List.mem_of_getElem? (i := 20) rfl)), rfl, hnm⟩) (hw _ (List.mem_of_getElem? (i := 9) rfl)) (ty := .long) (by decide) rfl rfl (g := (mkF m 11 #[.val (.ref r0), .val (.int p1), .val (.long q2), .second, .val (.long q3), .second] [(.long q2), (.ref r0)])) rfl rfl (hb hby d2_11)
  have K11 : Keep h0 h10 [r0] := K5.wr W10 (Or.inl (List.mem_of_getElem? (i := 0) rfl))
  have c12 : Fld Z h10 r0 "com/example/even_bucket/evenbucket/GreedyBucket" "unitsPerMilli" "J" (.long q2) := c9.same W10
  have N13 := Fr.snoc X10 N7 g1
  have c14 : Exa Z h10 r0 "com/example/even_bucket/evenbucket/GreedyBucket" := (c8.wr W10)
  have c15 : Fld Z h10 r0 "com/example/even_bucket/evenbucket/GreedyBucket" "unitsPerPermit" "J" (.long (0 : Int64)) := ((F2.other W4 (Or.inr (slot_ne (Or.inr (hw _ (List.mem_of_getElem? (i := 22) rfl))) (Or.inr (hw _ (List.mem_of_getElem? (i := 18) rfl))) (by decide) (t := .long) (t' := .int) (by decide) (by decide)))).other W10 (Or.inr (slot_ne (Or.inr (hw _ (List.mem_of_getElem? (i := 22) rfl))) (Or.inr (hw _ (List.mem_of_getElem? (i := 20) rfl))) (by decide) (t := .long) (t' := .long) (by decide) (by decide))))
  obtain ⟨T16, h16, X16, e16, W16, st16⟩ := putF X10 hx hZ hown (host := "") (Or.inl (hw _ (List.mem_of_getElem? (i := 21) rfl))) Via.refl e10 c15 c14 (Or.inr ⟨(hw _ (List.mem_of_getElem? (i := 22) rfl)), rfl, hnm⟩) (hw _ (List.mem_of_getElem? (i := 9) rfl)) (ty := .long) (by decide) rfl rfl (g := (mkF m 17 #[.val (.ref r0), .val (.int p1), .val (.long q2), .second, .val (.long q3), .second] [(.long q3), (.ref r0)])) rfl rfl (hb hby d2_17)
  have K17 : Keep h0 h16 [r0] := K11.wr W16 (Or.inl (List.mem_of_getElem? (i := 0) rfl))
  have c18 : Fld Z h16 r0 "com/example/even_bucket/evenbucket/GreedyBucket" "unitsPerPermit" "J" (.long q3) := c15.same W16
  have N19 := Fr.snoc X16 N13 g1
  have c20 : Exa Z h16 r0 "com/example/even_bucket/evenbucket/GreedyBucket" := (c14.wr W16)
  have c21 : Fld Z h16 r0 "com/example/even_bucket/evenbucket/GreedyBucket" "mostDeficitWithAPermit" "J" (.long (0 : Int64)) := (((F3.other W4 (Or.inr (slot_ne (Or.inr (hw _ (List.mem_of_getElem? (i := 24) rfl))) (Or.inr (hw _ (List.mem_of_getElem? (i := 18) rfl))) (by decide) (t := .long) (t' := .int) (by decide) (by decide)))).other W10 (Or.inr (slot_ne (Or.inr (hw _ (List.mem_of_getElem? (i := 24) rfl))) (Or.inr (hw _ (List.mem_of_getElem? (i := 20) rfl))) (by decide) (t := .long) (t' := .long) (by decide) (by decide)))).other W16 (Or.inr (slot_ne (Or.inr (hw _ (List.mem_of_getElem? (i := 24) rfl))) (Or.inr (hw _ (List.mem_of_getElem? (i := 22) rfl))) (by decide) (t := .long) (t' := .long) (by decide) (by decide))))
  obtain ⟨T22, h22, X22, e22, W22, st22⟩ := putF X16 hx hZ hown (host := "") (Or.inl (hw _ (List.mem_of_getElem? (i := 23) rfl))) Via.refl e16 c21 c20 (Or.inr ⟨(hw _ (List.mem_of_getElem? (i := 24) rfl)), rfl, hnm⟩) (hw _ (List.mem_of_getElem? (i := 9) rfl)) (ty := .long) (by decide) rfl rfl (g := (mkF m 28 #[.val (.ref r0), .val (.int p1), .val (.long q2), .second, .val (.long q3), .second] [(.long (((p1 - (1 : Int32)).toInt64) * q3)), (.ref r0)])) rfl rfl (hb hby d2_28)
  have K23 : Keep h0 h22 [r0] := K17.wr W22 (Or.inl (List.mem_of_getElem? (i := 0) rfl))
  have c24 : Fld Z h22 r0 "com/example/even_bucket/evenbucket/GreedyBucket" "mostDeficitWithAPermit" "J" (.long (((p1 - (1 : Int32)).toInt64) * q3)) := c21.same W22
  have N25 := Fr.snoc X22 N19 g1
  obtain ⟨fs, hrT, hrunT, hendT, hWT, hsameT⟩ := X22.leave (hlocks := BodyLoose.notSynchronized Bd) (v := none) (fun _ => rfl)
  refine ⟨_, _, pre0 _ ?_, hrunT, hendT, _, _, rfl, ?_, ⟨_, rfl⟩, hWT, hsameT.mono (by decide) (by decide)⟩
  · show Steps p.tables e below (s₁.setTop (mkF m 0 #[.val (.ref r0), .val (.int p1), .val (.long q2), .second, .val (.long q3), .second] [])) _
    refine XS.aloadN X0.here hx rfl (hb hby d2_0) rfl rfl ?_
    show Steps p.tables e below (s₁.setTop (mkF m 1 #[.val (.ref r0), .val (.int p1), .val (.long q2), .second, .val (.long q3), .second] [(.ref r0)])) _
    refine st3 _ ?_
    show Steps p.tables e below (T3.setTop (mkF m 4 #[.val (.ref r0), .val (.int p1), .val (.long q2), .second, .val (.long q3), .second] [])) _
    refine XS.aloadN X3.here hx rfl (hb hby d2_4) rfl rfl ?_
    show Steps p.tables e below (T3.setTop (mkF m 5 #[.val (.ref r0), .val (.int p1), .val (.long q2), .second, .val (.long q3), .second] [(.ref r0)])) _
    refine XS.iloadN X3.here hx rfl (hb hby d2_5) rfl ?_
    show Steps p.tables e below (T3.setTop (mkF m 6 #[.val (.ref r0), .val (.int p1), .val (.long q2), .second, .val (.long q3), .second] [(.int p1), (.ref r0)])) _
    refine st4 _ ?_
    show Steps p.tables e below (T4.setTop (mkF m 9 #[.val (.ref r0), .val (.int p1), .val (.long q2), .second, .val (.long q3), .second] [])) _
    refine XS.aloadN X4.here hx rfl (hb hby d2_9) rfl rfl ?_
    show Steps p.tables e below (T4.setTop (mkF m 10 #[.val (.ref r0), .val (.int p1), .val (.long q2), .second, .val (.long q3), .second] [(.ref r0)])) _
    refine XS.lloadN X4.here hx rfl (hb hby d2_10) rfl ?_
    show Steps p.tables e below (T4.setTop (mkF m 11 #[.val (.ref r0), .val (.int p1), .val (.long q2), .second, .val (.long q3), .second] [(.long q2), (.ref r0)])) _
    refine st10 _ ?_
    show Steps p.tables e below (T10.setTop (mkF m 14 #[.val (.ref r0), .val (.int p1), .val (.long q2), .second, .val (.long q3), .second] [])) _
    refine XS.aloadN X10.here hx rfl (hb hby d2_14) rfl rfl ?_
    show Steps p.tables e below (T10.setTop (mkF m 15 #[.val (.ref r0), .val (.int p1), .val (.long q2), .second, .val (.long q3), .second] [(.ref r0)])) _
    refine XS.lload X10.here hx rfl (hb hby d2_15) rfl ?_
    show Steps p.tables e below (T10.setTop (mkF m 17 #[.val (.ref r0), .val (.int p1), .val (.long q2), .second, .val (.long q3), .second] [(.long q3), (.ref r0)])) _
    refine st16 _ ?_
    show Steps p.tables e below (T16.setTop (mkF m 20 #[.val (.ref r0), .val (.int p1), .val (.long q2), .second, .val (.long q3), .second] [])) _
    refine XS.aloadN X16.here hx rfl (hb hby d2_20) rfl rfl ?_
    show Steps p.tables e below (T16.setTop (mkF m 21 #[.val (.ref r0), .val (.int p1), .val (.long q2), .second, .val (.long q3), .second] [(.ref r0)])) _
    refine XS.iloadN X16.here hx rfl (hb hby d2_21) rfl ?_
    show Steps p.tables e below (T16.setTop (mkF m 22 #[.val (.ref r0), .val (.int p1), .val (.long q2), .second, .val (.long q3), .second] [(.int p1), (.ref r0)])) _
    refine XS.iconst X16.here hx rfl (hb hby d2_22) ?_
    show Steps p.tables e below (T16.setTop (mkF m 23 #[.val (.ref r0), .val (.int p1), .val (.long q2), .second, .val (.long q3), .second] [(.int (1 : Int32)), (.int p1), (.ref r0)])) _
    refine XS.isub X16.here hx rfl (hb hby d2_23) rfl ?_
    show Steps p.tables e below (T16.setTop (mkF m 24 #[.val (.ref r0), .val (.int p1), .val (.long q2), .second, .val (.long q3), .second] [(.int (p1 - (1 : Int32))), (.ref r0)])) _
    refine XS.i2l X16.here hx rfl (hb hby d2_24) rfl ?_
    show Steps p.tables e below (T16.setTop (mkF m 25 #[.val (.ref r0), .val (.int p1), .val (.long q2), .second, .val (.long q3), .second] [(.long ((p1 - (1 : Int32)).toInt64)), (.ref r0)])) _
    refine XS.lload X16.here hx rfl (hb hby d2_25) rfl ?_
    show Steps p.tables e below (T16.setTop (mkF m 27 #[.val (.ref r0), .val (.int p1), .val (.long q2), .second, .val (.long q3), .second] [(.long q3), (.long ((p1 - (1 : Int32)).toInt64)), (.ref r0)])) _
    refine XS.lmul X16.here hx rfl (hb hby d2_27) rfl ?_
    show Steps p.tables e below (T16.setTop (mkF m 28 #[.val (.ref r0), .val (.int p1), .val (.long q2), .second, .val (.long q3), .second] [(.long (((p1 - (1 : Int32)).toInt64) * q3)), (.ref r0)])) _
    refine st22 _ ?_
    show Steps p.tables e below (T22.setTop (mkF m 31 #[.val (.ref r0), .val (.int p1), .val (.long q2), .second, .val (.long q3), .second] [])) _
    exact X22.returnOut hx Bd.returns (hb hby d2_31) hrT
  · show Q2 Z r0 p1 q2 q3 h0 n0 _ T22.heap _
    rw [e22]
    have c26 : Fld Z h22 r0 "com/example/even_bucket/evenbucket/GreedyBucket" "capacity" "I" (.int p1) := (((c6.other W10 (Or.inr (slot_ne (Or.inr (hw _ (List.mem_of_getElem? (i := 18) rfl))) (Or.inr (hw _ (List.mem_of_getElem? (i := 20) rfl))) (by decide) (t := .int) (t' := .long) (by decide) (by decide)))).other W16 (Or.inr (slot_ne (Or.inr (hw _ (List.mem_of_getElem? (i := 18) rfl))) (Or.inr (hw _ (List.mem_of_getElem? (i := 22) rfl))) (by decide) (t := .int) (t' := .long) (by decide) (by decide)))).other W22 (Or.inr (slot_ne (Or.inr (hw _ (List.mem_of_getElem? (i := 18) rfl))) (Or.inr (hw _ (List.mem_of_getElem? (i := 24) rfl))) (by decide) (t := .int) (t' := .long) (by decide) (by decide))))
    have c27 : Fld Z h22 r0 "com/example/even_bucket/evenbucket/GreedyBucket" "unitsPerMilli" "J" (.long q2) := ((c12.other W16 (Or.inr (slot_ne (Or.inr (hw _ (List.mem_of_getElem? (i := 20) rfl))) (Or.inr (hw _ (List.mem_of_getElem? (i := 22) rfl))) (by decide) (t := .long) (t' := .long) (by decide) (by decide)))).other W22 (Or.inr (slot_ne (Or.inr (hw _ (List.mem_of_getElem? (i := 20) rfl))) (Or.inr (hw _ (List.mem_of_getElem? (i := 24) rfl))) (by decide) (t := .long) (t' := .long) (by decide) (by decide))))
    have c28 : Fld Z h22 r0 "com/example/even_bucket/evenbucket/GreedyBucket" "unitsPerPermit" "J" (.long q3) := (c18.other W22 (Or.inr (slot_ne (Or.inr (hw _ (List.mem_of_getElem? (i := 22) rfl))) (Or.inr (hw _ (List.mem_of_getElem? (i := 24) rfl))) (by decide) (t := .long) (t' := .long) (by decide) (by decide))))
    have c29 : Fld Z h22 r0 "com/example/even_bucket/evenbucket/GreedyBucket" "deficit" "J" (.long (0 : Int64)) := ((((F4.other W4 (Or.inr (slot_ne (Or.inl (hw _ (List.mem_of_getElem? (i := 41) rfl))) (Or.inr (hw _ (List.mem_of_getElem? (i := 18) rfl))) (by decide) (t := .long) (t' := .int) (by decide) (by decide)))).other W10 (Or.inr (slot_ne (Or.inl (hw _ (List.mem_of_getElem? (i := 41) rfl))) (Or.inr (hw _ (List.mem_of_getElem? (i := 20) rfl))) (by decide) (t := .long) (t' := .long) (by decide) (by decide)))).other W16 (Or.inr (slot_ne (Or.inl (hw _ (List.mem_of_getElem? (i := 41) rfl))) (Or.inr (hw _ (List.mem_of_getElem? (i := 22) rfl))) (by decide) (t := .long) (t' := .long) (by decide) (by decide)))).other W22 (Or.inr (slot_ne (Or.inl (hw _ (List.mem_of_getElem? (i := 41) rfl))) (Or.inr (hw _ (List.mem_of_getElem? (i := 24) rfl))) (by decide) (t := .long) (t' := .long) (by decide) (by decide))))
    have c30 : Fld Z h22 r0 "com/example/even_bucket/evenbucket/GreedyBucket" "newest" "J" (.long (0 : Int64)) := ((((F5.other W4 (Or.inr (slot_ne (Or.inl (hw _ (List.mem_of_getElem? (i := 39) rfl))) (Or.inr (hw _ (List.mem_of_getElem? (i := 18) rfl))) (by decide) (t := .long) (t' := .int) (by decide) (by decide)))).other W10 (Or.inr (slot_ne (Or.inl (hw _ (List.mem_of_getElem? (i := 39) rfl))) (Or.inr (hw _ (List.mem_of_getElem? (i := 20) rfl))) (by decide) (t := .long) (t' := .long) (by decide) (by decide)))).other W16 (Or.inr (slot_ne (Or.inl (hw _ (List.mem_of_getElem? (i := 39) rfl))) (Or.inr (hw _ (List.mem_of_getElem? (i := 22) rfl))) (by decide) (t := .long) (t' := .long) (by decide) (by decide)))).other W22 (Or.inr (slot_ne (Or.inl (hw _ (List.mem_of_getElem? (i := 39) rfl))) (Or.inr (hw _ (List.mem_of_getElem? (i := 24) rfl))) (by decide) (t := .long) (t' := .long) (by decide) (by decide))))
    have c31 : Fld Z h22 r0 "com/example/even_bucket/evenbucket/GreedyBucket" "admitted" "Z" (.int (0 : Int32)) := ((((F6.other W4 (Or.inr (slot_ne (Or.inl (hw _ (List.mem_of_getElem? (i := 31) rfl))) (Or.inr (hw _ (List.mem_of_getElem? (i := 18) rfl))) (by decide) (t := .boolean) (t' := .int) (by decide) (by decide)))).other W10 (Or.inr (slot_ne (Or.inl (hw _ (List.mem_of_getElem? (i := 31) rfl))) (Or.inr (hw _ (List.mem_of_getElem? (i := 20) rfl))) (by decide) (t := .boolean) (t' := .long) (by decide) (by decide)))).other W16 (Or.inr (slot_ne (Or.inl (hw _ (List.mem_of_getElem? (i := 31) rfl))) (Or.inr (hw _ (List.mem_of_getElem? (i := 22) rfl))) (by decide) (t := .boolean) (t' := .long) (by decide) (by decide)))).other W22 (Or.inr (slot_ne (Or.inl (hw _ (List.mem_of_getElem? (i := 31) rfl))) (Or.inr (hw _ (List.mem_of_getElem? (i := 24) rfl))) (by decide) (t := .boolean) (t' := .long) (by decide) (by decide))))
    have c32 : Fld Z h22 r0 "com/example/even_bucket/evenbucket/GreedyBucket" "decidedAt" "J" (.long (0 : Int64)) := ((((F7.other W4 (Or.inr (slot_ne (Or.inl (hw _ (List.mem_of_getElem? (i := 33) rfl))) (Or.inr (hw _ (List.mem_of_getElem? (i := 18) rfl))) (by decide) (t := .long) (t' := .int) (by decide) (by decide)))).other W10 (Or.inr (slot_ne (Or.inl (hw _ (List.mem_of_getElem? (i := 33) rfl))) (Or.inr (hw _ (List.mem_of_getElem? (i := 20) rfl))) (by decide) (t := .long) (t' := .long) (by decide) (by decide)))).other W16 (Or.inr (slot_ne (Or.inl (hw _ (List.mem_of_getElem? (i := 33) rfl))) (Or.inr (hw _ (List.mem_of_getElem? (i := 22) rfl))) (by decide) (t := .long) (t' := .long) (by decide) (by decide)))).other W22 (Or.inr (slot_ne (Or.inl (hw _ (List.mem_of_getElem? (i := 33) rfl))) (Or.inr (hw _ (List.mem_of_getElem? (i := 24) rfl))) (by decide) (t := .long) (t' := .long) (by decide) (by decide))))
    exact ⟨rfl, N25, K23, c26, c27, c28, c24, c29, c30, c31, c32⟩
def f_dru (x y : Int64) : Int64 := (((x + y) - (1 : Int64)) / y)
theorem d6_0 : decode prog_26_method_13_code 0 = .ok (.lload_n 0, 1) := by decide +kernel
theorem d6_1 : decode prog_26_method_13_code 1 = .ok (.lload_n 2, 1) := by decide +kernel
theorem d6_2 : decode prog_26_method_13_code 2 = .ok (.ladd, 1) := by decide +kernel
theorem d6_3 : decode prog_26_method_13_code 3 = .ok (.lconst 1, 1) := by decide +kernel
theorem d6_4 : decode prog_26_method_13_code 4 = .ok (.lsub, 1) := by decide +kernel
theorem d6_5 : decode prog_26_method_13_code 5 = .ok (.lload_n 2, 1) := by decide +kernel
theorem d6_6 : decode prog_26_method_13_code 6 = .ok (.ldiv, 1) := by decide +kernel
theorem d6_7 : decode prog_26_method_13_code 7 = .ok (.lreturn, 1) := by decide +kernel
theorem ef6 (m : MethodId) (x0 : Int64) (x1 : Int64) : entryFrame m #[(.long x0), (.long x1)] 4 = mkF m 0 #[.val (.long x0), .second, .val (.long x1), .second] [] := by first | (simp [entryFrame, mkF, argsToLocals, Value.category]; done) | rfl
def Q6 (Z : State) (q0 : Int64) (q1 : Int64) (h0 : Heap) (n0 : Nat) (v : Option Value) (h : Heap) (L : List Loc) : Prop := v = some (.long (f_dru q0 q1)) ∧ Fr n0 L ∧ h = h0
set_option maxRecDepth 65536 in
set_option maxHeartbeats 40000000 in
theorem rm6 (l : Launch) (Z : State) (a0 : Array Value) (hw : ∀ d ∈ tables_1, d.before a0 Z = true) (ws : List Jvm.Cond) (q0 : Int64) (q1 : Int64) (h0 : Heap) (n0 : Nat) (Z0 : n0 ≤ h0.size) (hz : ¬ q1 = 0) :
    MetFree l (⟨"com/example/even_bucket/evenbucket/GreedyBucket", "divideRoundingUp", "(JJ)J"⟩ : MethodName) (head1 (Jvm.Cond.code (⟨"com/example/even_bucket/evenbucket/GreedyBucket", "divideRoundingUp", "(JJ)J"⟩ : MethodName) prog_26_method_13_code 4 (some .long) :: ws) ({ frames := 0, cells := 0, slots := 0, locals := 0 } : Room)) (fun a U => a = #[(.long q0), (.long q1)] ∧ Z.Warmed39 U.vm ∧ U.heap = h0) (fun _ _ _ _ _ => True) (fun _ U o U' => ∃ v L, o = .returned v ∧ Q6 Z q0 q1 h0 n0 v U'.heap L ∧ FrameEnd U o U' L ({ frames := 0, cells := 0, slots := 0, locals := 0 } : Room).cells ({ frames := 0, cells := 0, slots := 0, locals := 0 } : Room).slots) := by
  refine MetFree.of_bodySF (plainFor_of_name pn_GreedyBucket) hisR ?_
  intro p e s m args below meth c s₁ Bd hml0 hP hK
  obtain ⟨rfl, hZ, hh⟩ := hP
  have hx := Bd.exec
  have hby := Bd.bytes
  have hml : c.maxLocals = 4 := hml0
  have hown : s.vm.findClass "com/example/even_bucket/evenbucket/GreedyBucket" = some m.cls := findClass_of_methodNamed Bd.named
  have hnm := (name_of_methodNamed Bd.named Bd.method).1
  have X0 : Stand p l e ({ frames := 0, cells := 0, slots := 0, locals := 0 } : Room) s m #[(.long q0), (.long q1)] below meth c s₁ [] 0 0 := Stand.of_body Bd
  have e0 : s₁.heap = h0 := by rw [← hh, Bd.state]; rfl
  have N0 := Fr.nil n0
  have pre0 : ∀ t, Steps p.tables e below (s₁.setTop (mkF m 0 #[.val (.long q0), .second, .val (.long q1), .second] [])) t → Steps p.tables e below (s₁.setTop (entryFrame m #[(.long q0), (.long q1)] 4)) t := fun t k => castTop (ef6 m q0 q1) k
  obtain ⟨fs, hrT, hrunT, hendT, hWT, hsameT⟩ := X0.leave (hlocks := BodyLoose.notSynchronized Bd) (v := some (.long (((q0 + q1) - (1 : Int64)) / q1))) (fun h => by rw [Bd.returns] at h; cases h)
  refine ⟨_, _, pre0 _ ?_, hrunT, hendT, _, _, rfl, ?_, ⟨_, rfl⟩, hWT, hsameT.mono (by decide) (by decide)⟩
  · show Steps p.tables e below (s₁.setTop (mkF m 0 #[.val (.long q0), .second, .val (.long q1), .second] [])) _
    refine XS.lloadN X0.here hx rfl (hb hby d6_0) rfl ?_
    show Steps p.tables e below (s₁.setTop (mkF m 1 #[.val (.long q0), .second, .val (.long q1), .second] [(.long q0)])) _
    refine XS.lloadN X0.here hx rfl (hb hby d6_1) rfl ?_
    show Steps p.tables e below (s₁.setTop (mkF m 2 #[.val (.long q0), .second, .val (.long q1), .second] [(.long q1), (.long q0)])) _
    refine XS.ladd X0.here hx rfl (hb hby d6_2) rfl ?_
    show Steps p.tables e below (s₁.setTop (mkF m 3 #[.val (.long q0), .second, .val (.long q1), .second] [(.long (q0 + q1))])) _
    refine XS.lconst X0.here hx rfl (hb hby d6_3) ?_
    show Steps p.tables e below (s₁.setTop (mkF m 4 #[.val (.long q0), .second, .val (.long q1), .second] [(.long (1 : Int64)), (.long (q0 + q1))])) _
    refine XS.lsub X0.here hx rfl (hb hby d6_4) rfl ?_
    show Steps p.tables e below (s₁.setTop (mkF m 5 #[.val (.long q0), .second, .val (.long q1), .second] [(.long ((q0 + q1) - (1 : Int64)))])) _
    refine XS.lloadN X0.here hx rfl (hb hby d6_5) rfl ?_
    show Steps p.tables e below (s₁.setTop (mkF m 6 #[.val (.long q0), .second, .val (.long q1), .second] [(.long q1), (.long ((q0 + q1) - (1 : Int64)))])) _
    refine XS.ldiv X0.here hx rfl (hb hby d6_6) rfl hz ?_
    show Steps p.tables e below (s₁.setTop (mkF m 7 #[.val (.long q0), .second, .val (.long q1), .second] [(.long (((q0 + q1) - (1 : Int64)) / q1))])) _
    exact retOut X0 hx Bd.returns rfl (by right; left; exact ⟨rfl, rfl, _, rfl⟩) (hb hby d6_7) hrT
  · show Q6 Z q0 q1 h0 n0 _ s₁.heap _
    rw [e0]
    exact ⟨rfl, N0, rfl⟩
theorem d8_0 : decode jdk_35_method_42_code 0 = .ok (.lload_n 0, 1) := by decide +kernel
theorem d8_1 : decode jdk_35_method_42_code 1 = .ok (.lload_n 2, 1) := by decide +kernel
theorem d8_2 : decode jdk_35_method_42_code 2 = .ok (.lcmp, 1) := by decide +kernel
theorem d8_3 : decode jdk_35_method_42_code 3 = .ok (.ifCond .ge 7, 3) := by decide +kernel
theorem d8_6 : decode jdk_35_method_42_code 6 = .ok (.iconst (-1), 1) := by decide +kernel
theorem d8_7 : decode jdk_35_method_42_code 7 = .ok (.goto 14, 3) := by decide +kernel
theorem d8_21 : decode jdk_35_method_42_code 21 = .ok (.ireturn, 1) := by decide +kernel
theorem d8_10 : decode jdk_35_method_42_code 10 = .ok (.lload_n 0, 1) := by decide +kernel
theorem d8_11 : decode jdk_35_method_42_code 11 = .ok (.lload_n 2, 1) := by decide +kernel
theorem d8_12 : decode jdk_35_method_42_code 12 = .ok (.lcmp, 1) := by decide +kernel
theorem d8_13 : decode jdk_35_method_42_code 13 = .ok (.ifCond .ne 7, 3) := by decide +kernel
theorem d8_16 : decode jdk_35_method_42_code 16 = .ok (.iconst 0, 1) := by decide +kernel
theorem d8_17 : decode jdk_35_method_42_code 17 = .ok (.goto 4, 3) := by decide +kernel
theorem d8_20 : decode jdk_35_method_42_code 20 = .ok (.iconst 1, 1) := by decide +kernel
theorem pn_Long : plainName "java/lang/Long" = true := by first | (simp [plainName, overriddenIn]; done) | decide +kernel
def f_cmp (q0 : Int64) (q1 : Int64) : Int32 := (if q0 < q1 then (-1 : Int32) else (if q0 = q1 then (0 : Int32) else (1 : Int32)))
theorem ef8 (m : MethodId) (x0 : Int64) (x1 : Int64) : entryFrame m #[(.long x0), (.long x1)] 4 = mkF m 0 #[.val (.long x0), .second, .val (.long x1), .second] [] := by first | (simp [entryFrame, mkF, argsToLocals, Value.category]; done) | rfl
def Q8 (Z : State) (q0 : Int64) (q1 : Int64) (h0 : Heap) (n0 : Nat) (v : Option Value) (h : Heap) (L : List Loc) : Prop := v = some (.int (f_cmp q0 q1)) ∧ Fr n0 L ∧ h = h0
set_option maxRecDepth 65536 in
set_option maxHeartbeats 40000000 in
theorem rm8 (l : Launch) (Z : State) (a0 : Array Value) (hw : ∀ d ∈ tables_1, d.before a0 Z = true) (ws : List Jvm.Cond) (q0 : Int64) (q1 : Int64) (h0 : Heap) (n0 : Nat) (Z0 : n0 ≤ h0.size) :
    MetFree l (⟨"java/lang/Long", "compare", "(JJ)I"⟩ : MethodName) (head1 (Jvm.Cond.code (⟨"java/lang/Long", "compare", "(JJ)I"⟩ : MethodName) jdk_35_method_42_code 4 (some .int) :: ws) ({ frames := 0, cells := 0, slots := 0, locals := 0 } : Room)) (fun a U => a = #[(.long q0), (.long q1)] ∧ Z.Warmed39 U.vm ∧ U.heap = h0) (fun _ _ _ _ _ => True) (fun _ U o U' => ∃ v L, o = .returned v ∧ Q8 Z q0 q1 h0 n0 v U'.heap L ∧ FrameEnd U o U' L ({ frames := 0, cells := 0, slots := 0, locals := 0 } : Room).cells ({ frames := 0, cells := 0, slots := 0, locals := 0 } : Room).slots) := by
  refine MetFree.of_bodySF (plainFor_of_name pn_Long) hisR ?_
  intro p e s m args below meth c s₁ Bd hml0 hP hK
  obtain ⟨rfl, hZ, hh⟩ := hP
  have hx := Bd.exec
  have hby := Bd.bytes
  have hml : c.maxLocals = 4 := hml0
  have hown : s.vm.findClass "java/lang/Long" = some m.cls := findClass_of_methodNamed Bd.named
  have hnm := (name_of_methodNamed Bd.named Bd.method).1
  have X0 : Stand p l e ({ frames := 0, cells := 0, slots := 0, locals := 0 } : Room) s m #[(.long q0), (.long q1)] below meth c s₁ [] 0 0 := Stand.of_body Bd
  have e0 : s₁.heap = h0 := by rw [← hh, Bd.state]; rfl
  have N0 := Fr.nil n0
  have pre0 : ∀ t, Steps p.tables e below (s₁.setTop (mkF m 0 #[.val (.long q0), .second, .val (.long q1), .second] [])) t → Steps p.tables e below (s₁.setTop (entryFrame m #[(.long q0), (.long q1)] 4)) t := fun t k => castTop (ef8 m q0 q1) k
  have S33 : ∀ t, Steps p.tables e below (s₁.setTop (mkF m 3 #[.val (.long q0), .second, .val (.long q1), .second] [(.int (XT.cmpL q0 q1))])) t → Steps p.tables e below (s₁.setTop (entryFrame m #[(.long q0), (.long q1)] 4)) t := by
    intro t kt
    refine pre0 _ ?_
    show Steps p.tables e below (s₁.setTop (mkF m 0 #[.val (.long q0), .second, .val (.long q1), .second] [])) _
    refine XS.lloadN X0.here hx rfl (hb hby d8_0) rfl ?_
    show Steps p.tables e below (s₁.setTop (mkF m 1 #[.val (.long q0), .second, .val (.long q1), .second] [(.long q0)])) _
    refine XS.lloadN X0.here hx rfl (hb hby d8_1) rfl ?_
    show Steps p.tables e below (s₁.setTop (mkF m 2 #[.val (.long q0), .second, .val (.long q1), .second] [(.long q1), (.long q0)])) _
    refine XT.lcmp X0.here hx rfl (hb hby d8_2) rfl ?_
    exact kt
  by_cases hc3_34 : q0 < q1
  case pos =>
    obtain ⟨fs, hrT, hrunT, hendT, hWT, hsameT⟩ := X0.leave (hlocks := BodyLoose.notSynchronized Bd) (v := some (.int (-1 : Int32))) (fun h => by rw [Bd.returns] at h; cases h)
    refine ⟨_, _, S33 _ ?_, hrunT, hendT, _, _, rfl, ?_, ⟨_, rfl⟩, hWT, hsameT.mono (by decide) (by decide)⟩
    · show Steps p.tables e below (s₁.setTop (mkF m 3 #[.val (.long q0), .second, .val (.long q1), .second] [(.int (XT.cmpL q0 q1))])) _
      refine XS.ifNo X0.here hx rfl (hb hby d8_3) rfl (XT.ll_ge_f hc3_34) ?_
      show Steps p.tables e below (s₁.setTop (mkF m 6 #[.val (.long q0), .second, .val (.long q1), .second] [])) _
      refine XS.iconst X0.here hx rfl (hb hby d8_6) ?_
      show Steps p.tables e below (s₁.setTop (mkF m 7 #[.val (.long q0), .second, .val (.long q1), .second] [(.int (-1 : Int32))])) _
      refine XS.goto X0.here hx rfl (pc0 := 7) (pc' := 21) rfl (hb hby d8_7) (by decide) (by decide) ?_
      show Steps p.tables e below (s₁.setTop (mkF m 21 #[.val (.long q0), .second, .val (.long q1), .second] [(.int (-1 : Int32))])) _
      exact retI X0 hx Bd.returns (hb hby d8_21) hrT
    · show Q8 Z q0 q1 h0 n0 _ s₁.heap _
      rw [e0]
      have hv : f_cmp q0 q1 = (-1 : Int32) := by unfold f_cmp; rw [if_pos hc3_34]
      exact ⟨(congrArg (fun z => some (Value.int z)) hv.symm), N0, rfl⟩
  case neg =>
    have S35 : ∀ t, Steps p.tables e below (s₁.setTop (mkF m 13 #[.val (.long q0), .second, .val (.long q1), .second] [(.int (XT.cmpL q0 q1))])) t → Steps p.tables e below (s₁.setTop (entryFrame m #[(.long q0), (.long q1)] 4)) t := by
      intro t kt
      refine S33 _ ?_
      show Steps p.tables e below (s₁.setTop (mkF m 3 #[.val (.long q0), .second, .val (.long q1), .second] [(.int (XT.cmpL q0 q1))])) _
      refine XS.ifYes X0.here hx rfl (pc0 := 3) (pc' := 10) rfl (hb hby d8_3) rfl (XT.ll_ge_t hc3_34) (by decide) (by decide) ?_
      show Steps p.tables e below (s₁.setTop (mkF m 10 #[.val (.long q0), .second, .val (.long q1), .second] [])) _
      refine XS.lloadN X0.here hx rfl (hb hby d8_10) rfl ?_
      show Steps p.tables e below (s₁.setTop (mkF m 11 #[.val (.long q0), .second, .val (.long q1), .second] [(.long q0)])) _
      refine XS.lloadN X0.here hx rfl (hb hby d8_11) rfl ?_
      show Steps p.tables e below (s₁.setTop (mkF m 12 #[.val (.long q0), .second, .val (.long q1), .second] [(.long q1), (.long q0)])) _
      refine XT.lcmp X0.here hx rfl (hb hby d8_12) rfl ?_
      exact kt
    by_cases hc13_36 : q0 = q1
    case pos =>
      obtain ⟨fs, hrT, hrunT, hendT, hWT, hsameT⟩ := X0.leave (hlocks := BodyLoose.notSynchronized Bd) (v := some (.int (0 : Int32))) (fun h => by rw [Bd.returns] at h; cases h)
      refine ⟨_, _, S35 _ ?_, hrunT, hendT, _, _, rfl, ?_, ⟨_, rfl⟩, hWT, hsameT.mono (by decide) (by decide)⟩
      · show Steps p.tables e below (s₁.setTop (mkF m 13 #[.val (.long q0), .second, .val (.long q1), .second] [(.int (XT.cmpL q0 q1))])) _
        refine XS.ifNo X0.here hx rfl (hb hby d8_13) rfl (XT.ll_ne_f hc13_36) ?_
        show Steps p.tables e below (s₁.setTop (mkF m 16 #[.val (.long q0), .second, .val (.long q1), .second] [])) _
        refine XS.iconst X0.here hx rfl (hb hby d8_16) ?_
        show Steps p.tables e below (s₁.setTop (mkF m 17 #[.val (.long q0), .second, .val (.long q1), .second] [(.int (0 : Int32))])) _
        refine XS.goto X0.here hx rfl (pc0 := 17) (pc' := 21) rfl (hb hby d8_17) (by decide) (by decide) ?_
        show Steps p.tables e below (s₁.setTop (mkF m 21 #[.val (.long q0), .second, .val (.long q1), .second] [(.int (0 : Int32))])) _
        exact retI X0 hx Bd.returns (hb hby d8_21) hrT
      · show Q8 Z q0 q1 h0 n0 _ s₁.heap _
        rw [e0]
        have hv : f_cmp q0 q1 = (0 : Int32) := by unfold f_cmp; rw [if_neg hc3_34]; rw [if_pos hc13_36]
        exact ⟨(congrArg (fun z => some (Value.int z)) hv.symm), N0, rfl⟩
    case neg =>
      obtain ⟨fs, hrT, hrunT, hendT, hWT, hsameT⟩ := X0.leave (hlocks := BodyLoose.notSynchronized Bd) (v := some (.int (1 : Int32))) (fun h => by rw [Bd.returns] at h; cases h)
      refine ⟨_, _, S35 _ ?_, hrunT, hendT, _, _, rfl, ?_, ⟨_, rfl⟩, hWT, hsameT.mono (by decide) (by decide)⟩
      · show Steps p.tables e below (s₁.setTop (mkF m 13 #[.val (.long q0), .second, .val (.long q1), .second] [(.int (XT.cmpL q0 q1))])) _
        refine XS.ifYes X0.here hx rfl (pc0 := 13) (pc' := 20) rfl (hb hby d8_13) rfl (XT.ll_ne_t hc13_36) (by decide) (by decide) ?_
        show Steps p.tables e below (s₁.setTop (mkF m 20 #[.val (.long q0), .second, .val (.long q1), .second] [])) _
        refine XS.iconst X0.here hx rfl (hb hby d8_20) ?_
        show Steps p.tables e below (s₁.setTop (mkF m 21 #[.val (.long q0), .second, .val (.long q1), .second] [(.int (1 : Int32))])) _
        exact retI X0 hx Bd.returns (hb hby d8_21) hrT
      · show Q8 Z q0 q1 h0 n0 _ s₁.heap _
        rw [e0]
        have hv : f_cmp q0 q1 = (1 : Int32) := by unfold f_cmp; rw [if_neg hc3_34]; rw [if_neg hc13_36]
        exact ⟨(congrArg (fun z => some (Value.int z)) hv.symm), N0, rfl⟩
theorem d7_0 : decode jdk_35_method_43_code 0 = .ok (.lload_n 0, 1) := by decide +kernel
theorem d7_1 : decode jdk_35_method_43_code 1 = .ok (.ldc2_w 168, 3) := by decide +kernel
theorem d7_4 : decode jdk_35_method_43_code 4 = .ok (.ladd, 1) := by decide +kernel
theorem d7_5 : decode jdk_35_method_43_code 5 = .ok (.lload_n 2, 1) := by decide +kernel
theorem d7_6 : decode jdk_35_method_43_code 6 = .ok (.ldc2_w 168, 3) := by decide +kernel
theorem d7_9 : decode jdk_35_method_43_code 9 = .ok (.ladd, 1) := by decide +kernel
theorem pd__JJ_I : parseMethodDescriptor "(JJ)I" = some ⟨[.long, .long], some .int⟩ := by decide +kernel
theorem d7_10 : decode jdk_35_method_43_code 10 = .ok (.invokestatic 302, 3) := by decide +kernel
theorem d7_13 : decode jdk_35_method_43_code 13 = .ok (.ireturn, 1) := by decide +kernel
theorem ef7 (m : MethodId) (x0 : Int64) (x1 : Int64) : entryFrame m #[(.long x0), (.long x1)] 4 = mkF m 0 #[.val (.long x0), .second, .val (.long x1), .second] [] := by first | (simp [entryFrame, mkF, argsToLocals, Value.category]; done) | rfl
def Q7 (Z : State) (q0 : Int64) (q1 : Int64) (h0 : Heap) (n0 : Nat) (v : Option Value) (h : Heap) (L : List Loc) : Prop := v = some (.int (f_cmp (q0 + (-9223372036854775808 : Int64)) (q1 + (-9223372036854775808 : Int64)))) ∧ Fr n0 L ∧ h = h0
set_option maxRecDepth 65536 in
set_option maxHeartbeats 40000000 in
theorem rm7 (l : Launch) (Z : State) (a0 : Array Value) (hw : ∀ d ∈ tables_1, d.before a0 Z = true) (ws : List Jvm.Cond) (q0 : Int64) (q1 : Int64) (h0 : Heap) (n0 : Nat) (Z0 : n0 ≤ h0.size) :
    MetFree l (⟨"java/lang/Long", "compareUnsigned", "(JJ)I"⟩ : MethodName) (head1 (Jvm.Cond.code (⟨"java/lang/Long", "compareUnsigned", "(JJ)I"⟩ : MethodName) jdk_35_method_43_code 4 (some .int) :: ws) ({ frames := 1, cells := 0, slots := 0, locals := 15 } : Room)) (fun a U => a = #[(.long q0), (.long q1)] ∧ Z.Warmed39 U.vm ∧ U.heap = h0) (fun _ _ _ _ _ => True) (fun _ U o U' => ∃ v L, o = .returned v ∧ Q7 Z q0 q1 h0 n0 v U'.heap L ∧ FrameEnd U o U' L ({ frames := 1, cells := 0, slots := 0, locals := 15 } : Room).cells ({ frames := 1, cells := 0, slots := 0, locals := 15 } : Room).slots) := by
  refine MetFree.of_bodySF (plainFor_of_name pn_Long) hisR ?_
  intro p e s m args below meth c s₁ Bd hml0 hP hK
  obtain ⟨rfl, hZ, hh⟩ := hP
  have hx := Bd.exec
  have hby := Bd.bytes
  have hml : c.maxLocals = 4 := hml0
  have hown : s.vm.findClass "java/lang/Long" = some m.cls := findClass_of_methodNamed Bd.named
  have hnm := (name_of_methodNamed Bd.named Bd.method).1
  have X0 : Stand p l e ({ frames := 1, cells := 0, slots := 0, locals := 15 } : Room) s m #[(.long q0), (.long q1)] below meth c s₁ [] 0 0 := Stand.of_body Bd
  have e0 : s₁.heap = h0 := by rw [← hh, Bd.state]; rfl
  have N0 := Fr.nil n0
  have pre0 : ∀ t, Steps p.tables e below (s₁.setTop (mkF m 0 #[.val (.long q0), .second, .val (.long q1), .second] [])) t → Steps p.tables e below (s₁.setTop (entryFrame m #[(.long q0), (.long q1)] 4)) t := fun t k => castTop (ef7 m q0 q1) k
  obtain ⟨_, _, ⟨T37, L37, k37, n37⟩, -, X37, ⟨Lc37, hQ37, l37, y37, z37⟩, st37⟩ := Jvm.LawKit.callS X0 hx (y := (⟨"java/lang/Long", "compare", "(JJ)I"⟩ : MethodName)) hown (mvT hZ (hw _ (List.mem_of_getElem? (i := 50) rfl))) (mvT hZ (hw _ (List.mem_of_getElem? (i := 51) rfl))) (mvT hZ (hw _ (List.mem_of_getElem? (i := 47) rfl))) (mvT hZ (hw _ (List.mem_of_getElem? (i := 52) rfl))) (by decide) (backOf (W := 0) (rm8 l Z a0 hw [] (q0 + (-9223372036854775808 : Int64)) (q1 + (-9223372036854775808 : Int64)) h0 n0 Z0 ) hZ (hw _ (List.mem_of_getElem? (i := 52) rfl)) (hw _ (List.mem_of_getElem? (i := 47) rfl)) (by decide) (by decide)) (g := (mkF m 10 #[.val (.long q0), .second, .val (.long q1), .second] [(.long (q1 + (-9223372036854775808 : Int64))), (.long (q0 + (-9223372036854775808 : Int64)))])) rfl (by rw [hml]; rfl) (argsL := [(.long (q0 + (-9223372036854775808 : Int64))), (.long (q1 + (-9223372036854775808 : Int64)))]) (rest := []) (lenOf pd__JJ_I rfl) rfl (by show 2 * 0 + _ ≤ _; exact Nat.le_of_eq rfl) (hb hby d7_10) (fun _ _ => ⟨rfl, e0, (by decide : 0 + 0 ≤ _), (by decide : 0 + 0 ≤ _)⟩)
  dsimp only [Pt.U, Pt.locs, Pt.cells, Pt.slots] at X37 l37 y37 z37 st37 hQ37
  subst l37 y37 z37
  obtain ⟨rfl, Nq37, e37⟩ := hQ37
  have N37 := Fr.app N0 Nq37
  obtain ⟨fs, hrT, hrunT, hendT, hWT, hsameT⟩ := X37.leave (hlocks := BodyLoose.notSynchronized Bd) (v := some (.int (f_cmp (q0 + (-9223372036854775808 : Int64)) (q1 + (-9223372036854775808 : Int64))))) (fun h => by rw [Bd.returns] at h; cases h)
  refine ⟨_, _, pre0 _ ?_, hrunT, hendT, _, _, rfl, ?_, ⟨_, rfl⟩, hWT, hsameT.mono (by decide) (by decide)⟩
  · show Steps p.tables e below (s₁.setTop (mkF m 0 #[.val (.long q0), .second, .val (.long q1), .second] [])) _
    refine XS.lloadN X0.here hx rfl (hb hby d7_0) rfl ?_
    show Steps p.tables e below (s₁.setTop (mkF m 1 #[.val (.long q0), .second, .val (.long q1), .second] [(.long q0)])) _
    refine X0.ldc2Long hx hown (mvT hZ (hw _ (List.mem_of_getElem? (i := 49) rfl))) (g := (mkF m 1 #[.val (.long q0), .second, .val (.long q1), .second] [(.long q0)])) rfl (hb hby d7_1) _ ?_
    show Steps p.tables e below (s₁.setTop (mkF m 4 #[.val (.long q0), .second, .val (.long q1), .second] [(.long (-9223372036854775808 : Int64)), (.long q0)])) _
    refine XS.ladd X0.here hx rfl (hb hby d7_4) rfl ?_
    show Steps p.tables e below (s₁.setTop (mkF m 5 #[.val (.long q0), .second, .val (.long q1), .second] [(.long (q0 + (-9223372036854775808 : Int64)))])) _
    refine XS.lloadN X0.here hx rfl (hb hby d7_5) rfl ?_
    show Steps p.tables e below (s₁.setTop (mkF m 6 #[.val (.long q0), .second, .val (.long q1), .second] [(.long q1), (.long (q0 + (-9223372036854775808 : Int64)))])) _
    refine X0.ldc2Long hx hown (mvT hZ (hw _ (List.mem_of_getElem? (i := 49) rfl))) (g := (mkF m 6 #[.val (.long q0), .second, .val (.long q1), .second] [(.long q1), (.long (q0 + (-9223372036854775808 : Int64)))])) rfl (hb hby d7_6) _ ?_
    show Steps p.tables e below (s₁.setTop (mkF m 9 #[.val (.long q0), .second, .val (.long q1), .second] [(.long (-9223372036854775808 : Int64)), (.long q1), (.long (q0 + (-9223372036854775808 : Int64)))])) _
    refine XS.ladd X0.here hx rfl (hb hby d7_9) rfl ?_
    show Steps p.tables e below (s₁.setTop (mkF m 10 #[.val (.long q0), .second, .val (.long q1), .second] [(.long (q1 + (-9223372036854775808 : Int64))), (.long (q0 + (-9223372036854775808 : Int64)))])) _
    refine st37 _ ?_
    show Steps p.tables e below (T37.setTop (mkF m 13 #[.val (.long q0), .second, .val (.long q1), .second] [(.int (f_cmp (q0 + (-9223372036854775808 : Int64)) (q1 + (-9223372036854775808 : Int64))))])) _
    exact retI X37 hx Bd.returns (hb hby d7_13) hrT
  · show Q7 Z q0 q1 h0 n0 _ T37.heap _
    rw [e37]
    exact ⟨rfl, N37, rfl⟩
theorem d5_0 : decode prog_26_method_10_code 0 = .ok (.lload_n 1, 1) := by decide +kernel
theorem d5_1 : decode prog_26_method_10_code 1 = .ok (.aload_n 0, 1) := by decide +kernel
theorem d5_2 : decode prog_26_method_10_code 2 = .ok (.getfield 31, 3) := by decide +kernel
theorem d5_5 : decode prog_26_method_10_code 5 = .ok (.lsub, 1) := by decide +kernel
theorem d5_6 : decode prog_26_method_10_code 6 = .ok (.lstore_n 3, 1) := by decide +kernel
theorem d5_7 : decode prog_26_method_10_code 7 = .ok (.aload_n 0, 1) := by decide +kernel
theorem d5_8 : decode prog_26_method_10_code 8 = .ok (.getfield 50, 3) := by decide +kernel
theorem d5_11 : decode prog_26_method_10_code 11 = .ok (.aload_n 0, 1) := by decide +kernel
theorem d5_12 : decode prog_26_method_10_code 12 = .ok (.getfield 13, 3) := by decide +kernel
theorem pd__JJ_J : parseMethodDescriptor "(JJ)J" = some ⟨[.long, .long], some .long⟩ := by decide +kernel
theorem d5_15 : decode prog_26_method_10_code 15 = .ok (.invokestatic 67, 3) := by decide +kernel
theorem d5_18 : decode prog_26_method_10_code 18 = .ok (.lstore 5, 2) := by decide +kernel
theorem d5_20 : decode prog_26_method_10_code 20 = .ok (.lload_n 3, 1) := by decide +kernel
theorem d5_21 : decode prog_26_method_10_code 21 = .ok (.lload 5, 2) := by decide +kernel
theorem d5_23 : decode prog_26_method_10_code 23 = .ok (.invokestatic 75, 3) := by decide +kernel
theorem d5_26 : decode prog_26_method_10_code 26 = .ok (.ifCond .lt 5, 3) := by decide +kernel
theorem d5_31 : decode prog_26_method_10_code 31 = .ok (.aload_n 0, 1) := by decide +kernel
theorem d5_32 : decode prog_26_method_10_code 32 = .ok (.getfield 50, 3) := by decide +kernel
theorem d5_35 : decode prog_26_method_10_code 35 = .ok (.lload_n 3, 1) := by decide +kernel
theorem d5_36 : decode prog_26_method_10_code 36 = .ok (.aload_n 0, 1) := by decide +kernel
theorem d5_37 : decode prog_26_method_10_code 37 = .ok (.getfield 13, 3) := by decide +kernel
theorem d5_40 : decode prog_26_method_10_code 40 = .ok (.lmul, 1) := by decide +kernel
theorem d5_41 : decode prog_26_method_10_code 41 = .ok (.lsub, 1) := by decide +kernel
theorem d5_42 : decode prog_26_method_10_code 42 = .ok (.lreturn, 1) := by decide +kernel
theorem d5_29 : decode prog_26_method_10_code 29 = .ok (.lconst 0, 1) := by decide +kernel
theorem d5_30 : decode prog_26_method_10_code 30 = .ok (.lreturn, 1) := by decide +kernel
def f_da (q1 : Int64) (un : Int64) (ud : Int64) (um : Int64) : Int64 := (if (f_cmp ((q1 - un) + (-9223372036854775808 : Int64)) ((f_dru ud um) + (-9223372036854775808 : Int64))) < 0 then (ud - ((q1 - un) * um)) else (0 : Int64))
theorem ef5 (m : MethodId) (x0 : Addr) (x1 : Int64) : entryFrame m #[(.ref x0), (.long x1)] 7 = mkF m 0 #[.val (.ref x0), .val (.long x1), .second, .unset, .unset, .unset, .unset] [] := by first | (simp [entryFrame, mkF, argsToLocals, Value.category]; done) | rfl
def Q5 (Z : State) (r0 : Addr) (q1 : Int64) (um : Int64) (ud : Int64) (un : Int64) (h0 : Heap) (n0 : Nat) (v : Option Value) (h : Heap) (L : List Loc) : Prop := v = some (.long (f_da q1 un ud um)) ∧ Fr n0 L ∧ h = h0
set_option maxRecDepth 65536 in
set_option maxHeartbeats 40000000 in
theorem rm5 (l : Launch) (Z : State) (a0 : Array Value) (hw : ∀ d ∈ tables_1, d.before a0 Z = true) (ws : List Jvm.Cond) (r0 : Addr) (q1 : Int64) (um : Int64) (ud : Int64) (un : Int64) (h0 : Heap) (n0 : Nat) (Z0 : n0 ≤ h0.size) (F0 : Fld Z h0 r0 "com/example/even_bucket/evenbucket/GreedyBucket" "unitsPerMilli" "J" (.long um)) (F1 : Fld Z h0 r0 "com/example/even_bucket/evenbucket/GreedyBucket" "deficit" "J" (.long ud)) (F2 : Fld Z h0 r0 "com/example/even_bucket/evenbucket/GreedyBucket" "newest" "J" (.long un)) (hm : ¬ um = 0) :
    MetFree l (⟨"com/example/even_bucket/evenbucket/GreedyBucket", "deficitAt", "(J)J"⟩ : MethodName) (head1 (Jvm.Cond.code (⟨"com/example/even_bucket/evenbucket/GreedyBucket", "deficitAt", "(J)J"⟩ : MethodName) prog_26_method_10_code 7 (some .long) :: ws) ({ frames := 2, cells := 0, slots := 0, locals := 30 } : Room)) (fun a U => a = #[(.ref r0), (.long q1)] ∧ Z.Warmed39 U.vm ∧ U.heap = h0) (fun _ _ _ _ _ => True) (fun _ U o U' => ∃ v L, o = .returned v ∧ Q5 Z r0 q1 um ud un h0 n0 v U'.heap L ∧ FrameEnd U o U' L ({ frames := 2, cells := 0, slots := 0, locals := 30 } : Room).cells ({ frames := 2, cells := 0, slots := 0, locals := 30 } : Room).slots) := by
  refine MetFree.of_bodySF (plainFor_of_name pn_GreedyBucket) hisR ?_
  intro p e s m args below meth c s₁ Bd hml0 hP hK
  obtain ⟨rfl, hZ, hh⟩ := hP
  have hx := Bd.exec
  have hby := Bd.bytes
  have hml : c.maxLocals = 7 := hml0
  have hown : s.vm.findClass "com/example/even_bucket/evenbucket/GreedyBucket" = some m.cls := findClass_of_methodNamed Bd.named
  have hnm := (name_of_methodNamed Bd.named Bd.method).1
  have X0 : Stand p l e ({ frames := 2, cells := 0, slots := 0, locals := 30 } : Room) s m #[(.ref r0), (.long q1)] below meth c s₁ [] 0 0 := Stand.of_body Bd
  have e0 : s₁.heap = h0 := by rw [← hh, Bd.state]; rfl
  have N0 := Fr.nil n0
  have pre0 : ∀ t, Steps p.tables e below (s₁.setTop (mkF m 0 #[.val (.ref r0), .val (.long q1), .second, .unset, .unset, .unset, .unset] [])) t → Steps p.tables e below (s₁.setTop (entryFrame m #[(.ref r0), (.long q1)] 7)) t := fun t k => castTop (ef5 m r0 q1) k
  obtain ⟨T38, X38, e38, st38⟩ := getF X0 hx hZ hown (host := "") (Or.inl (hw _ (List.mem_of_getElem? (i := 38) rfl))) Via.refl e0 F2 (g := (mkF m 2 #[.val (.ref r0), .val (.long q1), .second, .unset, .unset, .unset, .unset] [(.ref r0), (.long q1)])) rfl rfl (hb hby d5_2)
  obtain ⟨T39, X39, e39, st39⟩ := getF X38 hx hZ hown (host := "") (Or.inl (hw _ (List.mem_of_getElem? (i := 40) rfl))) Via.refl e38 F1 (g := (mkF m 8 #[.val (.ref r0), .val (.long q1), .second, .val (.long (q1 - un)), .second, .unset, .unset] [(.ref r0)])) rfl rfl (hb hby d5_8)
  obtain ⟨T40, X40, e40, st40⟩ := getF X39 hx hZ hown (host := "") (Or.inl (hw _ (List.mem_of_getElem? (i := 19) rfl))) Via.refl e39 F0 (g := (mkF m 12 #[.val (.ref r0), .val (.long q1), .second, .val (.long (q1 - un)), .second, .unset, .unset] [(.ref r0), (.long ud)])) rfl rfl (hb hby d5_12)
  obtain ⟨_, _, ⟨T41, L41, k41, n41⟩, -, X41, ⟨Lc41, hQ41, l41, y41, z41⟩, st41⟩ := Jvm.LawKit.callS X40 hx (y := (⟨"com/example/even_bucket/evenbucket/GreedyBucket", "divideRoundingUp", "(JJ)J"⟩ : MethodName)) hown (mvT hZ (hw _ (List.mem_of_getElem? (i := 42) rfl))) (mvT hZ (hw _ (List.mem_of_getElem? (i := 43) rfl))) (mvT hZ (hw _ (List.mem_of_getElem? (i := 10) rfl))) (mvT hZ (hw _ (List.mem_of_getElem? (i := 44) rfl))) (by decide) (backOf (W := 0) (rm6 l Z a0 hw [] ud um h0 n0 Z0 hm) hZ (hw _ (List.mem_of_getElem? (i := 44) rfl)) (hw _ (List.mem_of_getElem? (i := 10) rfl)) (by decide) (by decide)) (g := (mkF m 15 #[.val (.ref r0), .val (.long q1), .second, .val (.long (q1 - un)), .second, .unset, .unset] [(.long um), (.long ud)])) rfl (by rw [hml]; rfl) (argsL := [(.long ud), (.long um)]) (rest := []) (lenOf pd__JJ_J rfl) rfl (by show 2 * 0 + _ ≤ _; exact Nat.le_of_eq rfl) (hb hby d5_15) (fun _ _ => ⟨rfl, e40, (by decide : 0 + 0 ≤ _), (by decide : 0 + 0 ≤ _)⟩)
  dsimp only [Pt.U, Pt.locs, Pt.cells, Pt.slots] at X41 l41 y41 z41 st41 hQ41
  subst l41 y41 z41
  obtain ⟨rfl, Nq41, e41⟩ := hQ41
  have N41 := Fr.app N0 Nq41
  obtain ⟨_, _, ⟨T42, L42, k42, n42⟩, -, X42, ⟨Lc42, hQ42, l42, y42, z42⟩, st42⟩ := Jvm.LawKit.callS X41 hx (y := (⟨"java/lang/Long", "compareUnsigned", "(JJ)I"⟩ : MethodName)) hown (mvT hZ (hw _ (List.mem_of_getElem? (i := 45) rfl))) (mvT hZ (hw _ (List.mem_of_getElem? (i := 46) rfl))) (mvT hZ (hw _ (List.mem_of_getElem? (i := 47) rfl))) (mvT hZ (hw _ (List.mem_of_getElem? (i := 48) rfl))) (by decide) (backOf (W := 0) (rm7 l Z a0 hw [] (q1 - un) (f_dru ud um) h0 n0 Z0 ) hZ (hw _ (List.mem_of_getElem? (i := 48) rfl)) (hw _ (List.mem_of_getElem? (i := 47) rfl)) (by decide) (by decide)) (g := (mkF m 23 #[.val (.ref r0), .val (.long q1), .second, .val (.long (q1 - un)), .second, .val (.long (f_dru ud um)), .second] [(.long (f_dru ud um)), (.long (q1 - un))])) rfl (by rw [hml]; rfl) (argsL := [(.long (q1 - un)), (.long (f_dru ud um))]) (rest := []) (lenOf pd__JJ_I rfl) rfl (by show 2 * 0 + _ ≤ _; exact Nat.le_of_eq rfl) (hb hby d5_23) (fun _ _ => ⟨rfl, e41, (by decide : 0 + 0 ≤ _), (by decide : 0 + 0 ≤ _)⟩)
  dsimp only [Pt.U, Pt.locs, Pt.cells, Pt.slots] at X42 l42 y42 z42 st42 hQ42
  subst l42 y42 z42
  obtain ⟨rfl, Nq42, e42⟩ := hQ42
  have N42 := Fr.app N41 Nq42
  have S43 : ∀ t, Steps p.tables e below (T42.setTop (mkF m 26 #[.val (.ref r0), .val (.long q1), .second, .val (.long (q1 - un)), .second, .val (.long (f_dru ud um)), .second] [(.int (f_cmp ((q1 - un) + (-9223372036854775808 : Int64)) ((f_dru ud um) + (-9223372036854775808 : Int64))))])) t → Steps p.tables e below (s₁.setTop (entryFrame m #[(.ref r0), (.long q1)] 7)) t := by
    intro t kt
    refine pre0 _ ?_
    show Steps p.tables e below (s₁.setTop (mkF m 0 #[.val (.ref r0), .val (.long q1), .second, .unset, .unset, .unset, .unset] [])) _
    refine XS.lloadN X0.here hx rfl (hb hby d5_0) rfl ?_
    show Steps p.tables e below (s₁.setTop (mkF m 1 #[.val (.ref r0), .val (.long q1), .second, .unset, .unset, .unset, .unset] [(.long q1)])) _
    refine XS.aloadN X0.here hx rfl (hb hby d5_1) rfl rfl ?_
    show Steps p.tables e below (s₁.setTop (mkF m 2 #[.val (.ref r0), .val (.long q1), .second, .unset, .unset, .unset, .unset] [(.ref r0), (.long q1)])) _
    refine st38 _ ?_
    show Steps p.tables e below (T38.setTop (mkF m 5 #[.val (.ref r0), .val (.long q1), .second, .unset, .unset, .unset, .unset] [(.long un), (.long q1)])) _
    refine XS.lsub X38.here hx rfl (hb hby d5_5) rfl ?_
    show Steps p.tables e below (T38.setTop (mkF m 6 #[.val (.ref r0), .val (.long q1), .second, .unset, .unset, .unset, .unset] [(.long (q1 - un))])) _
    refine XS.lstoreN X38.here hx rfl (hb hby d5_6) rfl (l' := #[.val (.ref r0), .val (.long q1), .second, .val (.long (q1 - un)), .second, .unset, .unset]) rfl ?_
    show Steps p.tables e below (T38.setTop (mkF m 7 #[.val (.ref r0), .val (.long q1), .second, .val (.long (q1 - un)), .second, .unset, .unset] [])) _
    refine XS.aloadN X38.here hx rfl (hb hby d5_7) rfl rfl ?_
    show Steps p.tables e below (T38.setTop (mkF m 8 #[.val (.ref r0), .val (.long q1), .second, .val (.long (q1 - un)), .second, .unset, .unset] [(.ref r0)])) _
    refine st39 _ ?_
    show Steps p.tables e below (T39.setTop (mkF m 11 #[.val (.ref r0), .val (.long q1), .second, .val (.long (q1 - un)), .second, .unset, .unset] [(.long ud)])) _
    refine XS.aloadN X39.here hx rfl (hb hby d5_11) rfl rfl ?_
    show Steps p.tables e below (T39.setTop (mkF m 12 #[.val (.ref r0), .val (.long q1), .second, .val (.long (q1 - un)), .second, .unset, .unset] [(.ref r0), (.long ud)])) _
    refine st40 _ ?_
    show Steps p.tables e below (T40.setTop (mkF m 15 #[.val (.ref r0), .val (.long q1), .second, .val (.long (q1 - un)), .second, .unset, .unset] [(.long um), (.long ud)])) _
    refine st41 _ ?_
    show Steps p.tables e below (T41.setTop (mkF m 18 #[.val (.ref r0), .val (.long q1), .second, .val (.long (q1 - un)), .second, .unset, .unset] [(.long (f_dru ud um))])) _
    refine XS.lstore X41.here hx rfl (hb hby d5_18) rfl (l' := #[.val (.ref r0), .val (.long q1), .second, .val (.long (q1 - un)), .second, .val (.long (f_dru ud um)), .second]) rfl ?_
    show Steps p.tables e below (T41.setTop (mkF m 20 #[.val (.ref r0), .val (.long q1), .second, .val (.long (q1 - un)), .second, .val (.long (f_dru ud um)), .second] [])) _
    refine XS.lloadN X41.here hx rfl (hb hby d5_20) rfl ?_
    show Steps p.tables e below (T41.setTop (mkF m 21 #[.val (.ref r0), .val (.long q1), .second, .val (.long (q1 - un)), .second, .val (.long (f_dru ud um)), .second] [(.long (q1 - un))])) _
    refine XS.lload X41.here hx rfl (hb hby d5_21) rfl ?_
    show Steps p.tables e below (T41.setTop (mkF m 23 #[.val (.ref r0), .val (.long q1), .second, .val (.long (q1 - un)), .second, .val (.long (f_dru ud um)), .second] [(.long (f_dru ud um)), (.long (q1 - un))])) _
    refine st42 _ ?_
    exact kt
  by_cases hc26_44 : (f_cmp ((q1 - un) + (-9223372036854775808 : Int64)) ((f_dru ud um) + (-9223372036854775808 : Int64))) < 0
  case pos =>
    obtain ⟨T45, X45, e45, st45⟩ := getF X42 hx hZ hown (host := "") (Or.inl (hw _ (List.mem_of_getElem? (i := 40) rfl))) Via.refl e42 F1 (g := (mkF m 32 #[.val (.ref r0), .val (.long q1), .second, .val (.long (q1 - un)), .second, .val (.long (f_dru ud um)), .second] [(.ref r0)])) rfl rfl (hb hby d5_32)
    obtain ⟨T46, X46, e46, st46⟩ := getF X45 hx hZ hown (host := "") (Or.inl (hw _ (List.mem_of_getElem? (i := 19) rfl))) Via.refl e45 F0 (g := (mkF m 37 #[.val (.ref r0), .val (.long q1), .second, .val (.long (q1 - un)), .second, .val (.long (f_dru ud um)), .second] [(.ref r0), (.long (q1 - un)), (.long ud)])) rfl rfl (hb hby d5_37)
    obtain ⟨fs, hrT, hrunT, hendT, hWT, hsameT⟩ := X46.leave (hlocks := BodyLoose.notSynchronized Bd) (v := some (.long (ud - ((q1 - un) * um)))) (fun h => by rw [Bd.returns] at h; cases h)
    refine ⟨_, _, S43 _ ?_, hrunT, hendT, _, _, rfl, ?_, ⟨_, rfl⟩, hWT, hsameT.mono (by decide) (by decide)⟩
    · show Steps p.tables e below (T42.setTop (mkF m 26 #[.val (.ref r0), .val (.long q1), .second, .val (.long (q1 - un)), .second, .val (.long (f_dru ud um)), .second] [(.int (f_cmp ((q1 - un) + (-9223372036854775808 : Int64)) ((f_dru ud um) + (-9223372036854775808 : Int64))))])) _
      refine XS.ifYes X42.here hx rfl (pc0 := 26) (pc' := 31) rfl (hb hby d5_26) rfl (XT.i0_lt_t hc26_44) (by decide) (by decide) ?_
      show Steps p.tables e below (T42.setTop (mkF m 31 #[.val (.ref r0), .val (.long q1), .second, .val (.long (q1 - un)), .second, .val (.long (f_dru ud um)), .second] [])) _
      refine XS.aloadN X42.here hx rfl (hb hby d5_31) rfl rfl ?_
      show Steps p.tables e below (T42.setTop (mkF m 32 #[.val (.ref r0), .val (.long q1), .second, .val (.long (q1 - un)), .second, .val (.long (f_dru ud um)), .second] [(.ref r0)])) _
      refine st45 _ ?_
      show Steps p.tables e below (T45.setTop (mkF m 35 #[.val (.ref r0), .val (.long q1), .second, .val (.long (q1 - un)), .second, .val (.long (f_dru ud um)), .second] [(.long ud)])) _
      refine XS.lloadN X45.here hx rfl (hb hby d5_35) rfl ?_
      show Steps p.tables e below (T45.setTop (mkF m 36 #[.val (.ref r0), .val (.long q1), .second, .val (.long (q1 - un)), .second, .val (.long (f_dru ud um)), .second] [(.long (q1 - un)), (.long ud)])) _
      refine XS.aloadN X45.here hx rfl (hb hby d5_36) rfl rfl ?_
      show Steps p.tables e below (T45.setTop (mkF m 37 #[.val (.ref r0), .val (.long q1), .second, .val (.long (q1 - un)), .second, .val (.long (f_dru ud um)), .second] [(.ref r0), (.long (q1 - un)), (.long ud)])) _
      refine st46 _ ?_
      show Steps p.tables e below (T46.setTop (mkF m 40 #[.val (.ref r0), .val (.long q1), .second, .val (.long (q1 - un)), .second, .val (.long (f_dru ud um)), .second] [(.long um), (.long (q1 - un)), (.long ud)])) _
      refine XS.lmul X46.here hx rfl (hb hby d5_40) rfl ?_
      show Steps p.tables e below (T46.setTop (mkF m 41 #[.val (.ref r0), .val (.long q1), .second, .val (.long (q1 - un)), .second, .val (.long (f_dru ud um)), .second] [(.long ((q1 - un) * um)), (.long ud)])) _
      refine XS.lsub X46.here hx rfl (hb hby d5_41) rfl ?_
      show Steps p.tables e below (T46.setTop (mkF m 42 #[.val (.ref r0), .val (.long q1), .second, .val (.long (q1 - un)), .second, .val (.long (f_dru ud um)), .second] [(.long (ud - ((q1 - un) * um)))])) _
      exact retOut X46 hx Bd.returns rfl (by right; left; exact ⟨rfl, rfl, _, rfl⟩) (hb hby d5_42) hrT
    · show Q5 Z r0 q1 um ud un h0 n0 _ T46.heap _
      rw [e46]
      have hv : f_da q1 un ud um = (ud - ((q1 - un) * um)) := by unfold f_da; rw [if_pos hc26_44]
      exact ⟨(congrArg (fun z => some (Value.long z)) hv.symm), N42, rfl⟩
  case neg =>
    obtain ⟨fs, hrT, hrunT, hendT, hWT, hsameT⟩ := X42.leave (hlocks := BodyLoose.notSynchronized Bd) (v := some (.long (0 : Int64))) (fun h => by rw [Bd.returns] at h; cases h)
    refine ⟨_, _, S43 _ ?_, hrunT, hendT, _, _, rfl, ?_, ⟨_, rfl⟩, hWT, hsameT.mono (by decide) (by decide)⟩
    · show Steps p.tables e below (T42.setTop (mkF m 26 #[.val (.ref r0), .val (.long q1), .second, .val (.long (q1 - un)), .second, .val (.long (f_dru ud um)), .second] [(.int (f_cmp ((q1 - un) + (-9223372036854775808 : Int64)) ((f_dru ud um) + (-9223372036854775808 : Int64))))])) _
      refine XS.ifNo X42.here hx rfl (hb hby d5_26) rfl (XT.i0_lt_f hc26_44) ?_
      show Steps p.tables e below (T42.setTop (mkF m 29 #[.val (.ref r0), .val (.long q1), .second, .val (.long (q1 - un)), .second, .val (.long (f_dru ud um)), .second] [])) _
      refine XS.lconst X42.here hx rfl (hb hby d5_29) ?_
      show Steps p.tables e below (T42.setTop (mkF m 30 #[.val (.ref r0), .val (.long q1), .second, .val (.long (q1 - un)), .second, .val (.long (f_dru ud um)), .second] [(.long (0 : Int64))])) _
      exact retOut X42 hx Bd.returns rfl (by right; left; exact ⟨rfl, rfl, _, rfl⟩) (hb hby d5_30) hrT
    · show Q5 Z r0 q1 um ud un h0 n0 _ T42.heap _
      rw [e42]
      have hv : f_da q1 un ud um = (0 : Int64) := by unfold f_da; rw [if_neg hc26_44]
      exact ⟨(congrArg (fun z => some (Value.long z)) hv.symm), N42, rfl⟩
theorem d9_0 : decode prog_26_method_11_code 0 = .ok (.aload_n 0, 1) := by decide +kernel
theorem d9_1 : decode prog_26_method_11_code 1 = .ok (.getfield 7, 3) := by decide +kernel
theorem d9_4 : decode prog_26_method_11_code 4 = .ok (.lload_n 1, 1) := by decide +kernel
theorem d9_5 : decode prog_26_method_11_code 5 = .ok (.aload_n 0, 1) := by decide +kernel
theorem d9_6 : decode prog_26_method_11_code 6 = .ok (.getfield 17, 3) := by decide +kernel
theorem d9_9 : decode prog_26_method_11_code 9 = .ok (.invokestatic 67, 3) := by decide +kernel
theorem d9_12 : decode prog_26_method_11_code 12 = .ok (.l2i, 1) := by decide +kernel
theorem d9_13 : decode prog_26_method_11_code 13 = .ok (.isub, 1) := by decide +kernel
theorem d9_14 : decode prog_26_method_11_code 14 = .ok (.ireturn, 1) := by decide +kernel
theorem ef9 (m : MethodId) (x0 : Addr) (x1 : Int64) : entryFrame m #[(.ref x0), (.long x1)] 3 = mkF m 0 #[.val (.ref x0), .val (.long x1), .second] [] := by first | (simp [entryFrame, mkF, argsToLocals, Value.category]; done) | rfl
def Q9 (Z : State) (r0 : Addr) (q1 : Int64) (uc : Int32) (up : Int64) (h0 : Heap) (n0 : Nat) (v : Option Value) (h : Heap) (L : List Loc) : Prop := v = some (.int (uc - ((f_dru q1 up).toInt32))) ∧ Fr n0 L ∧ h = h0
set_option maxRecDepth 65536 in
set_option maxHeartbeats 40000000 in
theorem rm9 (l : Launch) (Z : State) (a0 : Array Value) (hw : ∀ d ∈ tables_1, d.before a0 Z = true) (ws : List Jvm.Cond) (r0 : Addr) (q1 : Int64) (uc : Int32) (up : Int64) (h0 : Heap) (n0 : Nat) (Z0 : n0 ≤ h0.size) (F0 : Fld Z h0 r0 "com/example/even_bucket/evenbucket/GreedyBucket" "capacity" "I" (.int uc)) (F1 : Fld Z h0 r0 "com/example/even_bucket/evenbucket/GreedyBucket" "unitsPerPermit" "J" (.long up)) (hp : ¬ up = 0) :
    MetFree l (⟨"com/example/even_bucket/evenbucket/GreedyBucket", "freeWith", "(J)I"⟩ : MethodName) (head1 (Jvm.Cond.code (⟨"com/example/even_bucket/evenbucket/GreedyBucket", "freeWith", "(J)I"⟩ : MethodName) prog_26_method_11_code 3 (some .int) :: ws) ({ frames := 1, cells := 0, slots := 0, locals := 16 } : Room)) (fun a U => a = #[(.ref r0), (.long q1)] ∧ Z.Warmed39 U.vm ∧ U.heap = h0) (fun _ _ _ _ _ => True) (fun _ U o U' => ∃ v L, o = .returned v ∧ Q9 Z r0 q1 uc up h0 n0 v U'.heap L ∧ FrameEnd U o U' L ({ frames := 1, cells := 0, slots := 0, locals := 16 } : Room).cells ({ frames := 1, cells := 0, slots := 0, locals := 16 } : Room).slots) := by
  refine MetFree.of_bodySF (plainFor_of_name pn_GreedyBucket) hisR ?_
  intro p e s m args below meth c s₁ Bd hml0 hP hK
  obtain ⟨rfl, hZ, hh⟩ := hP
  have hx := Bd.exec
  have hby := Bd.bytes
  have hml : c.maxLocals = 3 := hml0
  have hown : s.vm.findClass "com/example/even_bucket/evenbucket/GreedyBucket" = some m.cls := findClass_of_methodNamed Bd.named
  have hnm := (name_of_methodNamed Bd.named Bd.method).1
  have X0 : Stand p l e ({ frames := 1, cells := 0, slots := 0, locals := 16 } : Room) s m #[(.ref r0), (.long q1)] below meth c s₁ [] 0 0 := Stand.of_body Bd
  have e0 : s₁.heap = h0 := by rw [← hh, Bd.state]; rfl
  have N0 := Fr.nil n0
  have pre0 : ∀ t, Steps p.tables e below (s₁.setTop (mkF m 0 #[.val (.ref r0), .val (.long q1), .second] [])) t → Steps p.tables e below (s₁.setTop (entryFrame m #[(.ref r0), (.long q1)] 3)) t := fun t k => castTop (ef9 m r0 q1) k
  obtain ⟨T47, X47, e47, st47⟩ := getF X0 hx hZ hown (host := "") (Or.inl (hw _ (List.mem_of_getElem? (i := 17) rfl))) Via.refl e0 F0 (g := (mkF m 1 #[.val (.ref r0), .val (.long q1), .second] [(.ref r0)])) rfl rfl (hb hby d9_1)
  obtain ⟨T48, X48, e48, st48⟩ := getF X47 hx hZ hown (host := "") (Or.inl (hw _ (List.mem_of_getElem? (i := 21) rfl))) Via.refl e47 F1 (g := (mkF m 6 #[.val (.ref r0), .val (.long q1), .second] [(.ref r0), (.long q1), (.int uc)])) rfl rfl (hb hby d9_6)
  obtain ⟨_, _, ⟨T49, L49, k49, n49⟩, -, X49, ⟨Lc49, hQ49, l49, y49, z49⟩, st49⟩ := Jvm.LawKit.callS X48 hx (y := (⟨"com/example/even_bucket/evenbucket/GreedyBucket", "divideRoundingUp", "(JJ)J"⟩ : MethodName)) hown (mvT hZ (hw _ (List.mem_of_getElem? (i := 42) rfl))) (mvT hZ (hw _ (List.mem_of_getElem? (i := 43) rfl))) (mvT hZ (hw _ (List.mem_of_getElem? (i := 10) rfl))) (mvT hZ (hw _ (List.mem_of_getElem? (i := 44) rfl))) (by decide) (backOf (W := 1) (rm6 l Z a0 hw [] q1 up h0 n0 Z0 hp) hZ (hw _ (List.mem_of_getElem? (i := 44) rfl)) (hw _ (List.mem_of_getElem? (i := 10) rfl)) (by decide) (by decide)) (g := (mkF m 9 #[.val (.ref r0), .val (.long q1), .second] [(.long up), (.long q1), (.int uc)])) rfl (by rw [hml]; rfl) (argsL := [(.long q1), (.long up)]) (rest := [(.int uc)]) (lenOf pd__JJ_J rfl) rfl (by show 2 * 0 + _ ≤ _; exact Nat.le_of_eq rfl) (hb hby d9_9) (fun _ _ => ⟨rfl, e48, (by decide : 0 + 0 ≤ _), (by decide : 0 + 0 ≤ _)⟩)
  dsimp only [Pt.U, Pt.locs, Pt.cells, Pt.slots] at X49 l49 y49 z49 st49 hQ49
  subst l49 y49 z49
  obtain ⟨rfl, Nq49, e49⟩ := hQ49
  have N49 := Fr.app N0 Nq49
  obtain ⟨fs, hrT, hrunT, hendT, hWT, hsameT⟩ := X49.leave (hlocks := BodyLoose.notSynchronized Bd) (v := some (.int (uc - ((f_dru q1 up).toInt32)))) (fun h => by rw [Bd.returns] at h; cases h)
  refine ⟨_, _, pre0 _ ?_, hrunT, hendT, _, _, rfl, ?_, ⟨_, rfl⟩, hWT, hsameT.mono (by decide) (by decide)⟩
  · show Steps p.tables e below (s₁.setTop (mkF m 0 #[.val (.ref r0), .val (.long q1), .second] [])) _
    refine XS.aloadN X0.here hx rfl (hb hby d9_0) rfl rfl ?_
    show Steps p.tables e below (s₁.setTop (mkF m 1 #[.val (.ref r0), .val (.long q1), .second] [(.ref r0)])) _
    refine st47 _ ?_
    show Steps p.tables e below (T47.setTop (mkF m 4 #[.val (.ref r0), .val (.long q1), .second] [(.int uc)])) _
    refine XS.lloadN X47.here hx rfl (hb hby d9_4) rfl ?_
    show Steps p.tables e below (T47.setTop (mkF m 5 #[.val (.ref r0), .val (.long q1), .second] [(.long q1), (.int uc)])) _
    refine XS.aloadN X47.here hx rfl (hb hby d9_5) rfl rfl ?_
    show Steps p.tables e below (T47.setTop (mkF m 6 #[.val (.ref r0), .val (.long q1), .second] [(.ref r0), (.long q1), (.int uc)])) _
    refine st48 _ ?_
    show Steps p.tables e below (T48.setTop (mkF m 9 #[.val (.ref r0), .val (.long q1), .second] [(.long up), (.long q1), (.int uc)])) _
    refine st49 _ ?_
    show Steps p.tables e below (T49.setTop (mkF m 12 #[.val (.ref r0), .val (.long q1), .second] [(.long (f_dru q1 up)), (.int uc)])) _
    refine XS.l2i X49.here hx rfl (hb hby d9_12) rfl ?_
    show Steps p.tables e below (T49.setTop (mkF m 13 #[.val (.ref r0), .val (.long q1), .second] [(.int ((f_dru q1 up).toInt32)), (.int uc)])) _
    refine XS.isub X49.here hx rfl (hb hby d9_13) rfl ?_
    show Steps p.tables e below (T49.setTop (mkF m 14 #[.val (.ref r0), .val (.long q1), .second] [(.int (uc - ((f_dru q1 up).toInt32)))])) _
    exact retI X49 hx Bd.returns (hb hby d9_14) hrT
  · show Q9 Z r0 q1 uc up h0 n0 _ T49.heap _
    rw [e49]
    exact ⟨rfl, N49, rfl⟩
theorem d11_0 : decode prog_19_method_1_code 0 = .ok (.aload_n 0, 1) := by decide +kernel
theorem d11_1 : decode prog_19_method_1_code 1 = .ok (.invokespecial 1, 3) := by decide +kernel
theorem d11_4 : decode prog_19_method_1_code 4 = .ok (.aload_n 0, 1) := by decide +kernel
theorem d11_5 : decode prog_19_method_1_code 5 = .ok (.lload_n 1, 1) := by decide +kernel
theorem d11_6 : decode prog_19_method_1_code 6 = .ok (.putfield 7, 3) := by decide +kernel
theorem d11_9 : decode prog_19_method_1_code 9 = .ok (.aload_n 0, 1) := by decide +kernel
theorem d11_10 : decode prog_19_method_1_code 10 = .ok (.aload_n 3, 1) := by decide +kernel
theorem d11_11 : decode prog_19_method_1_code 11 = .ok (.putfield 13, 3) := by decide +kernel
theorem d11_14 : decode prog_19_method_1_code 14 = .ok (.aload_n 0, 1) := by decide +kernel
theorem d11_15 : decode prog_19_method_1_code 15 = .ok (.iload 4, 2) := by decide +kernel
theorem d11_17 : decode prog_19_method_1_code 17 = .ok (.putfield 17, 3) := by decide +kernel
theorem d11_20 : decode prog_19_method_1_code 20 = .ok (.return_, 1) := by decide +kernel
theorem pn_Decision : plainName "com/example/even_bucket/evenbucket/Decision" = true := by first | (simp [plainName, overriddenIn]; done) | decide +kernel
theorem ef11 (m : MethodId) (x0 : Addr) (x1 : Int64) (x2 : Addr) (x3 : Int32) : entryFrame m #[(.ref x0), (.long x1), (.ref x2), (.int x3)] 5 = mkF m 0 #[.val (.ref x0), .val (.long x1), .second, .val (.ref x2), .val (.int x3)] [] := by first | (simp [entryFrame, mkF, argsToLocals, Value.category]; done) | rfl
def Q11 (Z : State) (r0 : Addr) (q1 : Int64) (r2 : Addr) (p3 : Int32) (h0 : Heap) (n0 : Nat) (v : Option Value) (h : Heap) (L : List Loc) : Prop := v = none ∧ Fr n0 L ∧ Keep h0 h [r0] ∧ Fld Z h r0 "com/example/even_bucket/evenbucket/Decision" "remaining" "J" (.long q1) ∧ Fld Z h r0 "com/example/even_bucket/evenbucket/Decision" "retryAfter" "Ljava/time/Duration;" (.ref r2)
set_option maxRecDepth 65536 in
set_option maxHeartbeats 40000000 in
theorem rm11 (l : Launch) (Z : State) (a0 : Array Value) (hw : ∀ d ∈ tables_1, d.before a0 Z = true) (ws : List Jvm.Cond) (r0 : Addr) (q1 : Int64) (r2 : Addr) (p3 : Int32) (h0 : Heap) (n0 : Nat) (Z0 : n0 ≤ h0.size) (F0 : Fld Z h0 r0 "com/example/even_bucket/evenbucket/Decision" "remaining" "J" (.long (0 : Int64))) (F1 : Fld Z h0 r0 "com/example/even_bucket/evenbucket/Decision" "retryAfter" "Ljava/time/Duration;" .null) (F2 : Fld Z h0 r0 "com/example/even_bucket/evenbucket/Decision" "byFallback" "Z" (.int (0 : Int32))) (E1 : Exa Z h0 r0 "com/example/even_bucket/evenbucket/Decision") (g1 : n0 ≤ r0) :
    MetFree l (⟨"com/example/even_bucket/evenbucket/Decision", "<init>", "(JLjava/time/Duration;Z)V"⟩ : MethodName) (head1 (Jvm.Cond.code (⟨"com/example/even_bucket/evenbucket/Decision", "<init>", "(JLjava/time/Duration;Z)V"⟩ : MethodName) prog_19_method_1_code 5 none :: ws) ({ frames := 1, cells := 0, slots := 0, locals := 12 } : Room)) (fun a U => a = #[(.ref r0), (.long q1), (.ref r2), (.int p3)] ∧ Z.Warmed39 U.vm ∧ U.heap = h0) (fun _ _ _ _ _ => True) (fun _ U o U' => ∃ v L, o = .returned v ∧ Q11 Z r0 q1 r2 p3 h0 n0 v U'.heap L ∧ FrameEnd U o U' L ({ frames := 1, cells := 0, slots := 0, locals := 12 } : Room).cells ({ frames := 1, cells := 0, slots := 0, locals := 12 } : Room).slots) := by
  refine MetFree.of_bodySF (plainFor_of_name pn_Decision) hisR ?_
  intro p e s m args below meth c s₁ Bd hml0 hP hK
  obtain ⟨rfl, hZ, hh⟩ := hP
  have hx := Bd.exec
  have hby := Bd.bytes
  have hml : c.maxLocals = 5 := hml0
  have hown : s.vm.findClass "com/example/even_bucket/evenbucket/Decision" = some m.cls := findClass_of_methodNamed Bd.named
  have hnm := (name_of_methodNamed Bd.named Bd.method).1
  have X0 : Stand p l e ({ frames := 1, cells := 0, slots := 0, locals := 12 } : Room) s m #[(.ref r0), (.long q1), (.ref r2), (.int p3)] below meth c s₁ [] 0 0 := Stand.of_body Bd
  have e0 : s₁.heap = h0 := by rw [← hh, Bd.state]; rfl
  have N0 := Fr.nil n0
  have pre0 : ∀ t, Steps p.tables e below (s₁.setTop (mkF m 0 #[.val (.ref r0), .val (.long q1), .second, .val (.ref r2), .val (.int p3)] [])) t → Steps p.tables e below (s₁.setTop (entryFrame m #[(.ref r0), (.long q1), (.ref r2), (.int p3)] 5)) t := fun t k => castTop (ef11 m r0 q1 r2 p3) k
  obtain ⟨T50, X50, e50, st50⟩ := initO X0 hx hZ hown (hw _ (List.mem_of_getElem? (i := 68) rfl)) (hw _ (List.mem_of_getElem? (i := 15) rfl)) (hw _ (List.mem_of_getElem? (i := 16) rfl)) e0 (g := (mkF m 1 #[.val (.ref r0), .val (.long q1), .second, .val (.ref r2), .val (.int p3)] [(.ref r0)])) rfl (by rw [hml]; rfl) rfl (hb hby d11_1) (by decide) (W := 0) (by show 2 * 0 + _ ≤ _; exact Nat.le_of_eq rfl) (by decide)
  obtain ⟨T51, h51, X51, e51, W51, st51⟩ := putF X50 hx hZ hown (host := "") (Or.inl (hw _ (List.mem_of_getElem? (i := 69) rfl))) Via.refl e50 F0 E1 (Or.inr ⟨(hw _ (List.mem_of_getElem? (i := 70) rfl)), rfl, hnm⟩) (hw _ (List.mem_of_getElem? (i := 62) rfl)) (ty := .long) (by decide) rfl rfl (g := (mkF m 6 #[.val (.ref r0), .val (.long q1), .second, .val (.ref r2), .val (.int p3)] [(.long q1), (.ref r0)])) rfl rfl (hb hby d11_6)
  have K52 : Keep h0 h51 [r0] := (Keep.refl h0 [r0]).wr W51 (Or.inl (List.mem_of_getElem? (i := 0) rfl))
  have c53 : Fld Z h51 r0 "com/example/even_bucket/evenbucket/Decision" "remaining" "J" (.long q1) := F0.same W51
  have N54 := Fr.snoc X51 N0 g1
  have c55 : Exa Z h51 r0 "com/example/even_bucket/evenbucket/Decision" := (E1.wr W51)
  have c56 : Fld Z h51 r0 "com/example/even_bucket/evenbucket/Decision" "retryAfter" "Ljava/time/Duration;" .null := (F1.other W51 (Or.inr (slot_ne (Or.inr (hw _ (List.mem_of_getElem? (i := 72) rfl))) (Or.inr (hw _ (List.mem_of_getElem? (i := 70) rfl))) (by decide) (t := (.object "java/time/Duration")) (t' := .long) (by decide) (by decide))))
  obtain ⟨T57, h57, X57, e57, W57, st57⟩ := putF X51 hx hZ hown (host := "") (Or.inl (hw _ (List.mem_of_getElem? (i := 71) rfl))) Via.refl e51 c56 c55 (Or.inr ⟨(hw _ (List.mem_of_getElem? (i := 72) rfl)), rfl, hnm⟩) (hw _ (List.mem_of_getElem? (i := 62) rfl)) (ty := (.object "java/time/Duration")) (by decide) rfl rfl (g := (mkF m 11 #[.val (.ref r0), .val (.long q1), .second, .val (.ref r2), .val (.int p3)] [(.ref r2), (.ref r0)])) rfl rfl (hb hby d11_11)
  have K58 : Keep h0 h57 [r0] := K52.wr W57 (Or.inl (List.mem_of_getElem? (i := 0) rfl))
  have c59 : Fld Z h57 r0 "com/example/even_bucket/evenbucket/Decision" "retryAfter" "Ljava/time/Duration;" (.ref r2) := c56.same W57
  have N60 := Fr.snoc X57 N54 g1
  have c61 : Exa Z h57 r0 "com/example/even_bucket/evenbucket/Decision" := (c55.wr W57)
  have c62 : Fld Z h57 r0 "com/example/even_bucket/evenbucket/Decision" "byFallback" "Z" (.int (0 : Int32)) := ((F2.other W51 (Or.inr (slot_ne (Or.inr (hw _ (List.mem_of_getElem? (i := 74) rfl))) (Or.inr (hw _ (List.mem_of_getElem? (i := 70) rfl))) (by decide) (t := .boolean) (t' := .long) (by decide) (by decide)))).other W57 (Or.inr (slot_ne (Or.inr (hw _ (List.mem_of_getElem? (i := 74) rfl))) (Or.inr (hw _ (List.mem_of_getElem? (i := 72) rfl))) (by decide) (t := .boolean) (t' := (.object "java/time/Duration")) (by decide) (by decide))))
  obtain ⟨T63, h63, X63, e63, W63, st63⟩ := putFN X57 hx hZ hown (hw _ (List.mem_of_getElem? (i := 73) rfl)) Via.refl e57 c62 c61 (Or.inr ⟨(hw _ (List.mem_of_getElem? (i := 74) rfl)), rfl, hnm⟩) (hw _ (List.mem_of_getElem? (i := 62) rfl)) (ty := .boolean) (v' := (.int (nar .boolean p3))) (by decide) rfl (fits_nar_bool _) (g := (mkF m 17 #[.val (.ref r0), .val (.long q1), .second, .val (.ref r2), .val (.int p3)] [(.int p3), (.ref r0)])) rfl rfl (hb hby d11_17)
  have K64 : Keep h0 h63 [r0] := K58.wr W63 (Or.inl (List.mem_of_getElem? (i := 0) rfl))
  have c65 : Fld Z h63 r0 "com/example/even_bucket/evenbucket/Decision" "byFallback" "Z" (.int (nar .boolean p3)) := c62.same W63
  have N66 := Fr.snoc X63 N60 g1
  obtain ⟨fs, hrT, hrunT, hendT, hWT, hsameT⟩ := X63.leave (hlocks := BodyLoose.notSynchronized Bd) (v := none) (fun _ => rfl)
  refine ⟨_, _, pre0 _ ?_, hrunT, hendT, _, _, rfl, ?_, ⟨_, rfl⟩, hWT, hsameT.mono (by decide) (by decide)⟩
  · show Steps p.tables e below (s₁.setTop (mkF m 0 #[.val (.ref r0), .val (.long q1), .second, .val (.ref r2), .val (.int p3)] [])) _
    refine XS.aloadN X0.here hx rfl (hb hby d11_0) rfl rfl ?_
    show Steps p.tables e below (s₁.setTop (mkF m 1 #[.val (.ref r0), .val (.long q1), .second, .val (.ref r2), .val (.int p3)] [(.ref r0)])) _
    refine st50 _ ?_
    show Steps p.tables e below (T50.setTop (mkF m 4 #[.val (.ref r0), .val (.long q1), .second, .val (.ref r2), .val (.int p3)] [])) _
    refine XS.aloadN X50.here hx rfl (hb hby d11_4) rfl rfl ?_
    show Steps p.tables e below (T50.setTop (mkF m 5 #[.val (.ref r0), .val (.long q1), .second, .val (.ref r2), .val (.int p3)] [(.ref r0)])) _
    refine XS.lloadN X50.here hx rfl (hb hby d11_5) rfl ?_
    show Steps p.tables e below (T50.setTop (mkF m 6 #[.val (.ref r0), .val (.long q1), .second, .val (.ref r2), .val (.int p3)] [(.long q1), (.ref r0)])) _
    refine st51 _ ?_
    show Steps p.tables e below (T51.setTop (mkF m 9 #[.val (.ref r0), .val (.long q1), .second, .val (.ref r2), .val (.int p3)] [])) _
    refine XS.aloadN X51.here hx rfl (hb hby d11_9) rfl rfl ?_
    show Steps p.tables e below (T51.setTop (mkF m 10 #[.val (.ref r0), .val (.long q1), .second, .val (.ref r2), .val (.int p3)] [(.ref r0)])) _
    refine XS.aloadN X51.here hx rfl (hb hby d11_10) rfl rfl ?_
    show Steps p.tables e below (T51.setTop (mkF m 11 #[.val (.ref r0), .val (.long q1), .second, .val (.ref r2), .val (.int p3)] [(.ref r2), (.ref r0)])) _
    refine st57 _ ?_
    show Steps p.tables e below (T57.setTop (mkF m 14 #[.val (.ref r0), .val (.long q1), .second, .val (.ref r2), .val (.int p3)] [])) _
    refine XS.aloadN X57.here hx rfl (hb hby d11_14) rfl rfl ?_
    show Steps p.tables e below (T57.setTop (mkF m 15 #[.val (.ref r0), .val (.long q1), .second, .val (.ref r2), .val (.int p3)] [(.ref r0)])) _
    refine XS.iload X57.here hx rfl (hb hby d11_15) rfl ?_
    show Steps p.tables e below (T57.setTop (mkF m 17 #[.val (.ref r0), .val (.long q1), .second, .val (.ref r2), .val (.int p3)] [(.int p3), (.ref r0)])) _
    refine st63 _ ?_
    show Steps p.tables e below (T63.setTop (mkF m 20 #[.val (.ref r0), .val (.long q1), .second, .val (.ref r2), .val (.int p3)] [])) _
    exact X63.returnOut hx Bd.returns (hb hby d11_20) hrT
  · show Q11 Z r0 q1 r2 p3 h0 n0 _ T63.heap _
    rw [e63]
    have c67 : Fld Z h63 r0 "com/example/even_bucket/evenbucket/Decision" "remaining" "J" (.long q1) := ((c53.other W57 (Or.inr (slot_ne (Or.inr (hw _ (List.mem_of_getElem? (i := 70) rfl))) (Or.inr (hw _ (List.mem_of_getElem? (i := 72) rfl))) (by decide) (t := .long) (t' := (.object "java/time/Duration")) (by decide) (by decide)))).other W63 (Or.inr (slot_ne (Or.inr (hw _ (List.mem_of_getElem? (i := 70) rfl))) (Or.inr (hw _ (List.mem_of_getElem? (i := 74) rfl))) (by decide) (t := .long) (t' := .boolean) (by decide) (by decide))))
    have c68 : Fld Z h63 r0 "com/example/even_bucket/evenbucket/Decision" "retryAfter" "Ljava/time/Duration;" (.ref r2) := (c59.other W63 (Or.inr (slot_ne (Or.inr (hw _ (List.mem_of_getElem? (i := 72) rfl))) (Or.inr (hw _ (List.mem_of_getElem? (i := 74) rfl))) (by decide) (t := (.object "java/time/Duration")) (t' := .boolean) (by decide) (by decide))))
    exact ⟨rfl, N66, K64, c67, c68⟩
theorem d10_0 : decode prog_19_method_2_code 0 = .ok (.lload_n 0, 1) := by decide +kernel
theorem d10_1 : decode prog_19_method_2_code 1 = .ok (.lconst 0, 1) := by decide +kernel
theorem d10_2 : decode prog_19_method_2_code 2 = .ok (.lcmp, 1) := by decide +kernel
theorem d10_3 : decode prog_19_method_2_code 3 = .ok (.ifCond .ge 17, 3) := by decide +kernel
theorem d10_20 : decode prog_19_method_2_code 20 = .ok (.new 8, 3) := by decide +kernel
theorem d10_23 : decode prog_19_method_2_code 23 = .ok (.dup, 1) := by decide +kernel
theorem d10_24 : decode prog_19_method_2_code 24 = .ok (.lload_n 0, 1) := by decide +kernel
theorem d10_25 : decode prog_19_method_2_code 25 = .ok (.getstatic 30, 3) := by decide +kernel
theorem d10_28 : decode prog_19_method_2_code 28 = .ok (.iconst 0, 1) := by decide +kernel
theorem pd__JLjava_time_Duration_Z_V : parseMethodDescriptor "(JLjava/time/Duration;Z)V" = some ⟨[.long, (.object "java/time/Duration"), .boolean], none⟩ := by decide +kernel
theorem d10_29 : decode prog_19_method_2_code 29 = .ok (.invokespecial 35, 3) := by decide +kernel
theorem d10_32 : decode prog_19_method_2_code 32 = .ok (.areturn, 1) := by decide +kernel
theorem ef10 (m : MethodId) (x0 : Int64) : entryFrame m #[(.long x0)] 2 = mkF m 0 #[.val (.long x0), .second] [] := by first | (simp [entryFrame, mkF, argsToLocals, Value.category]; done) | rfl
def Q10 (Z : State) (q0 : Int64) (vz : Addr) (h0 : Heap) (n0 : Nat) (v : Option Value) (h : Heap) (L : List Loc) : Prop := ∃ bb : Addr, v = some (.ref bb) ∧ Fr n0 L ∧ Keep h0 h [] ∧ h0.size ≤ bb ∧ Exa Z h bb "com/example/even_bucket/evenbucket/Decision" ∧ Fld Z h bb "com/example/even_bucket/evenbucket/Decision" "remaining" "J" (.long q0) ∧ Fld Z h bb "com/example/even_bucket/evenbucket/Decision" "retryAfter" "Ljava/time/Duration;" (.ref vz)
set_option maxRecDepth 65536 in
set_option maxHeartbeats 40000000 in
theorem rm10 (l : Launch) (Z : State) (a0 : Array Value) (hw : ∀ d ∈ tables_1, d.before a0 Z = true) (ws : List Jvm.Cond) (q0 : Int64) (vz : Addr) (h0 : Heap) (n0 : Nat) (Z0 : n0 ≤ h0.size) (hn : ¬ q0 < (0 : Int64)) (Sz : Sta Z h0 "java/time/Duration" "ZERO" "Ljava/time/Duration;" (.ref vz)) :
    MetFree l (⟨"com/example/even_bucket/evenbucket/Decision", "allow", "(J)Lcom/example/even_bucket/evenbucket/Decision;"⟩ : MethodName) (head1 (Jvm.Cond.code (⟨"com/example/even_bucket/evenbucket/Decision", "allow", "(J)Lcom/example/even_bucket/evenbucket/Decision;"⟩ : MethodName) prog_19_method_2_code 2 (some (.object "com/example/even_bucket/evenbucket/Decision")) :: ws) ({ frames := 2, cells := 1, slots := 3, locals := 29 } : Room)) (fun a U => a = #[(.long q0)] ∧ Z.Warmed39 U.vm ∧ U.heap = h0) (fun _ _ _ _ _ => True) (fun _ U o U' => ∃ v L, o = .returned v ∧ Q10 Z q0 vz h0 n0 v U'.heap L ∧ FrameEnd U o U' L ({ frames := 2, cells := 1, slots := 3, locals := 29 } : Room).cells ({ frames := 2, cells := 1, slots := 3, locals := 29 } : Room).slots) := by
  refine MetFree.of_bodySF (plainFor_of_name pn_Decision) hisR ?_
  intro p e s m args below meth c s₁ Bd hml0 hP hK
  obtain ⟨rfl, hZ, hh⟩ := hP
  have hx := Bd.exec
  have hby := Bd.bytes
  have hml : c.maxLocals = 2 := hml0
  have hown : s.vm.findClass "com/example/even_bucket/evenbucket/Decision" = some m.cls := findClass_of_methodNamed Bd.named
  have hnm := (name_of_methodNamed Bd.named Bd.method).1
  have X0 : Stand p l e ({ frames := 2, cells := 1, slots := 3, locals := 29 } : Room) s m #[(.long q0)] below meth c s₁ [] 0 0 := Stand.of_body Bd
  have e0 : s₁.heap = h0 := by rw [← hh, Bd.state]; rfl
  have N0 := Fr.nil n0
  have pre0 : ∀ t, Steps p.tables e below (s₁.setTop (mkF m 0 #[.val (.long q0), .second] [])) t → Steps p.tables e below (s₁.setTop (entryFrame m #[(.long q0)] 2)) t := fun t k => castTop (ef10 m q0) k
  obtain ⟨T69, h69, X69, e69, E69, A69, D69, -, st69⟩ := newO X0 hx hZ hown (hw _ (List.mem_of_getElem? (i := 61) rfl)) (hw _ (List.mem_of_getElem? (i := 62) rfl)) (hw _ (List.mem_of_getElem? (i := 59) rfl)) e0 (g := (mkF m 20 #[.val (.long q0), .second] [])) rfl (hb hby d10_20) (by decide) (by decide)
  obtain ⟨b69, g69⟩ : ∃ z, z = h0.size := ⟨_, rfl⟩
  rw [← g69] at A69 D69 st69
  have ge_b69 : n0 ≤ b69 := Nat.le_trans Z0 (Nat.le_of_eq g69.symm)
  have sz_b69 : h0.size ≤ b69 := Nat.le_of_eq g69.symm
  have K70 : Keep h0 h69 [] := (Keep.refl h0 []).ext E69
  have F71 : Fld Z h69 b69 "com/example/even_bucket/evenbucket/Decision" "remaining" "J" (.long (0 : Int64)) := D69 (Or.inr (hw _ (List.mem_of_getElem? (i := 70) rfl))) (ty := .long) (by decide)
  have F72 : Fld Z h69 b69 "com/example/even_bucket/evenbucket/Decision" "retryAfter" "Ljava/time/Duration;" .null := D69 (Or.inr (hw _ (List.mem_of_getElem? (i := 72) rfl))) (ty := (.object "java/time/Duration")) (by decide)
  have F73 : Fld Z h69 b69 "com/example/even_bucket/evenbucket/Decision" "byFallback" "Z" (.int (0 : Int32)) := D69 (Or.inr (hw _ (List.mem_of_getElem? (i := 74) rfl))) (ty := .boolean) (by decide)
  have c74 : Sta Z h69 "java/time/Duration" "ZERO" "Ljava/time/Duration;" (.ref vz) := (Sz.ext E69)
  obtain ⟨T75, X75, e75, st75⟩ := getS2 X69 hx hZ hown (host := "") (Or.inl (hw _ (List.mem_of_getElem? (i := 63) rfl))) Via.refl e69 c74 (g := (mkF m 25 #[.val (.long q0), .second] [(.long q0), (.ref b69), (.ref b69)])) rfl (hb hby d10_25)
  obtain ⟨_, _, ⟨T76, L76, k76, n76⟩, -, X76, ⟨Lc76, hQ76, l76, y76, z76⟩, st76⟩ := X75.specialBack hx (y := (⟨"com/example/even_bucket/evenbucket/Decision", "<init>", "(JLjava/time/Duration;Z)V"⟩ : MethodName)) rfl hown (mvT hZ (hw _ (List.mem_of_getElem? (i := 65) rfl))) (mvT hZ (hw _ (List.mem_of_getElem? (i := 66) rfl))) (mvT hZ (hw _ (List.mem_of_getElem? (i := 67) rfl))) (by decide) (backOf (W := 1) (rm11 l Z a0 hw [] b69 q0 vz (0 : Int32) h69 n0 (Nat.le_trans Z0 K70.1) F71 F72 F73 A69 ge_b69) hZ (hw _ (List.mem_of_getElem? (i := 67) rfl)) (hw _ (List.mem_of_getElem? (i := 59) rfl)) (by decide) (by decide)) (g := (mkF m 29 #[.val (.long q0), .second] [(.int (0 : Int32)), (.ref vz), (.long q0), (.ref b69), (.ref b69)])) rfl (by rw [hml]; rfl) (Steps.refl _) (a := b69) (argsL := [(.long q0), (.ref vz), (.int (0 : Int32))]) (rest := [(.ref b69)]) (lenOf pd__JLjava_time_Duration_Z_V rfl) rfl (by show 2 * 0 + _ ≤ _; exact Nat.le_of_eq rfl) (hb hby d10_29) (fun _ _ => ⟨rfl, e75, (by decide : 1 + 0 ≤ _), (by decide : 3 + 0 ≤ _)⟩)
  dsimp only [Pt.U, Pt.locs, Pt.cells, Pt.slots] at X76 l76 y76 z76 st76 hQ76
  subst l76 y76 z76
  obtain ⟨rfl, Nq76, Kq76, f76_0, f76_1⟩ := hQ76
  have K77 : Keep h0 T76.heap [] := K70.trans Kq76 (fun x hx => by cases List.mem_singleton.mp hx; exact Or.inr sz_b69)
  have N76 := Fr.app N0 Nq76
  obtain ⟨fs, hrT, hrunT, hendT, hWT, hsameT⟩ := X76.leave (hlocks := BodyLoose.notSynchronized Bd) (v := some (.ref b69)) (fun h => by rw [Bd.returns] at h; cases h)
  refine ⟨_, _, pre0 _ ?_, hrunT, hendT, _, _, rfl, ?_, ⟨_, rfl⟩, hWT, hsameT.mono (by decide) (by decide)⟩
  · show Steps p.tables e below (s₁.setTop (mkF m 0 #[.val (.long q0), .second] [])) _
    refine XS.lloadN X0.here hx rfl (hb hby d10_0) rfl ?_
    show Steps p.tables e below (s₁.setTop (mkF m 1 #[.val (.long q0), .second] [(.long q0)])) _
    refine XS.lconst X0.here hx rfl (hb hby d10_1) ?_
    show Steps p.tables e below (s₁.setTop (mkF m 2 #[.val (.long q0), .second] [(.long (0 : Int64)), (.long q0)])) _
    refine XT.lcmp X0.here hx rfl (hb hby d10_2) rfl ?_
    show Steps p.tables e below (s₁.setTop (mkF m 3 #[.val (.long q0), .second] [(.int (XT.cmpL q0 (0 : Int64)))])) _
    refine XS.ifYes X0.here hx rfl (pc0 := 3) (pc' := 20) rfl (hb hby d10_3) rfl (XT.ll_ge_t hn) (by decide) (by decide) ?_
    show Steps p.tables e below (s₁.setTop (mkF m 20 #[.val (.long q0), .second] [])) _
    refine st69 _ ?_
    show Steps p.tables e below (T69.setTop (mkF m 23 #[.val (.long q0), .second] [(.ref b69)])) _
    refine XS.dup X69.here hx rfl (hb hby d10_23) rfl rfl ?_
    show Steps p.tables e below (T69.setTop (mkF m 24 #[.val (.long q0), .second] [(.ref b69), (.ref b69)])) _
    refine XS.lloadN X69.here hx rfl (hb hby d10_24) rfl ?_
    show Steps p.tables e below (T69.setTop (mkF m 25 #[.val (.long q0), .second] [(.long q0), (.ref b69), (.ref b69)])) _
    refine st75 _ ?_
    show Steps p.tables e below (T75.setTop (mkF m 28 #[.val (.long q0), .second] [(.ref vz), (.long q0), (.ref b69), (.ref b69)])) _
    refine XS.iconst X75.here hx rfl (hb hby d10_28) ?_
    show Steps p.tables e below (T75.setTop (mkF m 29 #[.val (.long q0), .second] [(.int (0 : Int32)), (.ref vz), (.long q0), (.ref b69), (.ref b69)])) _
    refine st76.trans ?_
    show Steps p.tables e below (T76.setTop (mkF m 32 #[.val (.long q0), .second] [(.ref b69)])) _
    exact retOut X76 hx Bd.returns rfl (by right; right; right; right; exact ⟨rfl, rfl, rfl⟩) (hb hby d10_32) hrT
  · show Q10 Z q0 vz h0 n0 _ T76.heap _
    have c78 : Exa Z T76.heap b69 "com/example/even_bucket/evenbucket/Decision" := (A69.keep Kq76)
    exact ⟨b69, rfl, N76, K77, sz_b69, c78, f76_0, f76_1⟩
theorem own_da0 {q um : Int64} (h : 1 ≤ um.toInt ∧ um.toInt ≤ 2147483648) : f_da q (0 : Int64) (0 : Int64) um = (0 : Int64) := by
  have e : f_dru (0 : Int64) um = 0 := by
    unfold f_dru
    have z : (0 : Int64).toInt = 0 := rfl
    have o : (1 : Int64).toInt = 1 := rfl
    have e1 : ((0 : Int64) + um).toInt = um.toInt := by rw [Jvm.Kit.i64_add (by omega) (by omega), z]; omega
    have e2 : (((0 : Int64) + um) - (1 : Int64)).toInt = um.toInt - 1 := by rw [Jvm.Kit.i64_sub (by omega) (by omega), e1, o]
    rw [← Int64.toInt_inj, Jvm.Kit.i64_div (by omega), e2, z, Int.tdiv_eq_ediv_of_nonneg (by omega)]
    exact Int.ediv_eq_zero_of_lt (by omega) (by omega)
  unfold f_da
  rw [e]
  have k : ¬ f_cmp ((q - (0 : Int64)) + (-9223372036854775808 : Int64)) ((0 : Int64) + (-9223372036854775808 : Int64)) < 0 := by
    unfold f_cmp
    have q1 : ¬ ((q - (0 : Int64)) + (-9223372036854775808 : Int64)) < ((0 : Int64) + (-9223372036854775808 : Int64)) := by
      rw [Int64.lt_iff_toInt_lt]
      have := ((q - (0 : Int64)) + (-9223372036854775808 : Int64)).le_toInt
      have e : ((0 : Int64) + (-9223372036854775808 : Int64)).toInt = -9223372036854775808 := by decide
      omega
    rw [if_neg q1]
    split <;> decide
  rw [if_neg k]
theorem own_nz {y : Int64} (h : 1 ≤ y.toInt ∧ y.toInt ≤ 2147483648) : ¬ y = 0 := fun e => by
  have := congrArg Int64.toInt e
  rw [show (0 : Int64).toInt = 0 from rfl] at this
  omega
theorem d4_0 : decode prog_26_method_4_code 0 = .ok (.aload_n 0, 1) := by decide +kernel
theorem d4_1 : decode prog_26_method_4_code 1 = .ok (.getfield 27, 3) := by decide +kernel
theorem d4_4 : decode prog_26_method_4_code 4 = .ok (.ifCond .eq 14, 3) := by decide +kernel
theorem d4_18 : decode prog_26_method_4_code 18 = .ok (.lload_n 1, 1) := by decide +kernel
theorem d4_19 : decode prog_26_method_4_code 19 = .ok (.lstore_n 3, 1) := by decide +kernel
theorem d4_20 : decode prog_26_method_4_code 20 = .ok (.aload_n 0, 1) := by decide +kernel
theorem d4_21 : decode prog_26_method_4_code 21 = .ok (.lload_n 3, 1) := by decide +kernel
theorem d4_22 : decode prog_26_method_4_code 22 = .ok (.putfield 39, 3) := by decide +kernel
theorem d4_25 : decode prog_26_method_4_code 25 = .ok (.aload_n 0, 1) := by decide +kernel
theorem d4_26 : decode prog_26_method_4_code 26 = .ok (.lload_n 3, 1) := by decide +kernel
theorem pd__J_J : parseMethodDescriptor "(J)J" = some ⟨[.long], some .long⟩ := by decide +kernel
theorem d4_27 : decode prog_26_method_4_code 27 = .ok (.invokevirtual 42, 3) := by decide +kernel
theorem d4_30 : decode prog_26_method_4_code 30 = .ok (.lstore 5, 2) := by decide +kernel
theorem d4_32 : decode prog_26_method_4_code 32 = .ok (.lload 5, 2) := by decide +kernel
theorem d4_34 : decode prog_26_method_4_code 34 = .ok (.aload_n 0, 1) := by decide +kernel
theorem d4_35 : decode prog_26_method_4_code 35 = .ok (.getfield 20, 3) := by decide +kernel
theorem d4_38 : decode prog_26_method_4_code 38 = .ok (.lcmp, 1) := by decide +kernel
theorem d4_39 : decode prog_26_method_4_code 39 = .ok (.ifCond .le 10, 3) := by decide +kernel
theorem d4_49 : decode prog_26_method_4_code 49 = .ok (.aload_n 0, 1) := by decide +kernel
theorem d4_50 : decode prog_26_method_4_code 50 = .ok (.lload 5, 2) := by decide +kernel
theorem d4_52 : decode prog_26_method_4_code 52 = .ok (.aload_n 0, 1) := by decide +kernel
theorem d4_53 : decode prog_26_method_4_code 53 = .ok (.getfield 17, 3) := by decide +kernel
theorem d4_56 : decode prog_26_method_4_code 56 = .ok (.ladd, 1) := by decide +kernel
theorem d4_57 : decode prog_26_method_4_code 57 = .ok (.putfield 50, 3) := by decide +kernel
theorem d4_60 : decode prog_26_method_4_code 60 = .ok (.aload_n 0, 1) := by decide +kernel
theorem d4_61 : decode prog_26_method_4_code 61 = .ok (.lload_n 3, 1) := by decide +kernel
theorem d4_62 : decode prog_26_method_4_code 62 = .ok (.putfield 31, 3) := by decide +kernel
theorem d4_65 : decode prog_26_method_4_code 65 = .ok (.aload_n 0, 1) := by decide +kernel
theorem d4_66 : decode prog_26_method_4_code 66 = .ok (.iconst 1, 1) := by decide +kernel
theorem d4_67 : decode prog_26_method_4_code 67 = .ok (.putfield 27, 3) := by decide +kernel
theorem d4_70 : decode prog_26_method_4_code 70 = .ok (.aload_n 0, 1) := by decide +kernel
theorem d4_71 : decode prog_26_method_4_code 71 = .ok (.aload_n 0, 1) := by decide +kernel
theorem d4_72 : decode prog_26_method_4_code 72 = .ok (.getfield 50, 3) := by decide +kernel
theorem pd__J_I : parseMethodDescriptor "(J)I" = some ⟨[.long], some .int⟩ := by decide +kernel
theorem d4_75 : decode prog_26_method_4_code 75 = .ok (.invokevirtual 53, 3) := by decide +kernel
theorem d4_78 : decode prog_26_method_4_code 78 = .ok (.i2l, 1) := by decide +kernel
theorem pd__J_Lcom_example_even_bucket_evenbucket_Decision_ : parseMethodDescriptor "(J)Lcom/example/even_bucket/evenbucket/Decision;" = some ⟨[.long], some (.object "com/example/even_bucket/evenbucket/Decision")⟩ := by decide +kernel
theorem d4_79 : decode prog_26_method_4_code 79 = .ok (.invokestatic 57, 3) := by decide +kernel
theorem d4_82 : decode prog_26_method_4_code 82 = .ok (.areturn, 1) := by decide +kernel
theorem ef4 (m : MethodId) (x0 : Addr) (x1 : Int64) : entryFrame m #[(.ref x0), (.long x1)] 7 = mkF m 0 #[.val (.ref x0), .val (.long x1), .second, .unset, .unset, .unset, .unset] [] := by first | (simp [entryFrame, mkF, argsToLocals, Value.category]; done) | rfl
def Q4 (Z : State) (r0 : Addr) (q1 : Int64) (uc : Int32) (um : Int64) (up : Int64) (us : Int64) (vz : Addr) (h0 : Heap) (n0 : Nat) (v : Option Value) (h : Heap) (L : List Loc) : Prop := ∃ bb : Addr, v = some (.ref bb) ∧ Fr n0 L ∧ Keep h0 h [r0] ∧ Fld Z h r0 "com/example/even_bucket/evenbucket/GreedyBucket" "capacity" "I" (.int uc) ∧ Fld Z h r0 "com/example/even_bucket/evenbucket/GreedyBucket" "unitsPerMilli" "J" (.long um) ∧ Fld Z h r0 "com/example/even_bucket/evenbucket/GreedyBucket" "unitsPerPermit" "J" (.long up) ∧ Fld Z h r0 "com/example/even_bucket/evenbucket/GreedyBucket" "mostDeficitWithAPermit" "J" (.long us) ∧ Fld Z h r0 "com/example/even_bucket/evenbucket/GreedyBucket" "deficit" "J" (.long ((0 : Int64) + up)) ∧ Fld Z h r0 "com/example/even_bucket/evenbucket/GreedyBucket" "newest" "J" (.long q1) ∧ Fld Z h r0 "com/example/even_bucket/evenbucket/GreedyBucket" "admitted" "Z" (.int (1 : Int32)) ∧ Fld Z h r0 "com/example/even_bucket/evenbucket/GreedyBucket" "decidedAt" "J" (.long q1)
set_option maxRecDepth 65536 in
set_option maxHeartbeats 40000000 in
theorem rm4 (l : Launch) (Z : State) (a0 : Array Value) (hw : ∀ d ∈ tables_1, d.before a0 Z = true) (ws : List Jvm.Cond) (r0 : Addr) (q1 : Int64) (uc : Int32) (um : Int64) (up : Int64) (us : Int64) (vz : Addr) (h0 : Heap) (n0 : Nat) (Z0 : n0 ≤ h0.size) (F0 : Fld Z h0 r0 "com/example/even_bucket/evenbucket/GreedyBucket" "capacity" "I" (.int uc)) (F1 : Fld Z h0 r0 "com/example/even_bucket/evenbucket/GreedyBucket" "unitsPerMilli" "J" (.long um)) (F2 : Fld Z h0 r0 "com/example/even_bucket/evenbucket/GreedyBucket" "unitsPerPermit" "J" (.long up)) (F3 : Fld Z h0 r0 "com/example/even_bucket/evenbucket/GreedyBucket" "mostDeficitWithAPermit" "J" (.long us)) (F4 : Fld Z h0 r0 "com/example/even_bucket/evenbucket/GreedyBucket" "deficit" "J" (.long (0 : Int64))) (F5 : Fld Z h0 r0 "com/example/even_bucket/evenbucket/GreedyBucket" "newest" "J" (.long (0 : Int64))) (F6 : Fld Z h0 r0 "com/example/even_bucket/evenbucket/GreedyBucket" "admitted" "Z" (.int (0 : Int32))) (F7 : Fld Z h0 r0 "com/example/even_bucket/evenbucket/GreedyBucket" "decidedAt" "J" (.long (0 : Int64))) (E1 : Exa Z h0 r0 "com/example/even_bucket/evenbucket/GreedyBucket") (g1 : n0 ≤ r0) (Sz : Sta Z h0 "java/time/Duration" "ZERO" "Ljava/time/Duration;" (.ref vz)) (hm : 1 ≤ um.toInt ∧ um.toInt ≤ 2147483648) (hp : ¬ up = 0) (hs : ¬ us < (0 : Int64)) (hf : ¬ ((uc - ((f_dru ((0 : Int64) + up) up).toInt32)).toInt64) < (0 : Int64)) :
    MetFree l (⟨"com/example/even_bucket/evenbucket/GreedyBucket", "tryAcquire", "(J)Lcom/example/even_bucket/evenbucket/Decision;"⟩ : MethodName) (head1 (Jvm.Cond.code (⟨"com/example/even_bucket/evenbucket/GreedyBucket", "tryAcquire", "(J)Lcom/example/even_bucket/evenbucket/Decision;"⟩ : MethodName) prog_26_method_4_code 7 (some (.object "com/example/even_bucket/evenbucket/Decision")) :: ws) ({ frames := 3, cells := 1, slots := 3, locals := 48 } : Room)) (fun a U => a = #[(.ref r0), (.long q1)] ∧ Z.Warmed39 U.vm ∧ U.heap = h0) (fun _ _ _ _ _ => True) (fun _ U o U' => ∃ v L, o = .returned v ∧ Q4 Z r0 q1 uc um up us vz h0 n0 v U'.heap L ∧ FrameEnd U o U' L ({ frames := 3, cells := 1, slots := 3, locals := 48 } : Room).cells ({ frames := 3, cells := 1, slots := 3, locals := 48 } : Room).slots) := by
  refine MetFree.of_bodySF (plainFor_of_name pn_GreedyBucket) hisR ?_
  intro p e s m args below meth c s₁ Bd hml0 hP hK
  obtain ⟨rfl, hZ, hh⟩ := hP
  have hx := Bd.exec
  have hby := Bd.bytes
  have hml : c.maxLocals = 7 := hml0
  have hown : s.vm.findClass "com/example/even_bucket/evenbucket/GreedyBucket" = some m.cls := findClass_of_methodNamed Bd.named
  have hnm := (name_of_methodNamed Bd.named Bd.method).1
  have X0 : Stand p l e ({ frames := 3, cells := 1, slots := 3, locals := 48 } : Room) s m #[(.ref r0), (.long q1)] below meth c s₁ [] 0 0 := Stand.of_body Bd
  have e0 : s₁.heap = h0 := by rw [← hh, Bd.state]; rfl
  have N0 := Fr.nil n0
  have pre0 : ∀ t, Steps p.tables e below (s₁.setTop (mkF m 0 #[.val (.ref r0), .val (.long q1), .second, .unset, .unset, .unset, .unset] [])) t → Steps p.tables e below (s₁.setTop (entryFrame m #[(.ref r0), (.long q1)] 7)) t := fun t k => castTop (ef4 m r0 q1) k
  obtain ⟨T79, X79, e79, st79⟩ := getF X0 hx hZ hown (host := "") (Or.inl (hw _ (List.mem_of_getElem? (i := 30) rfl))) Via.refl e0 F6 (g := (mkF m 1 #[.val (.ref r0), .val (.long q1), .second, .unset, .unset, .unset, .unset] [(.ref r0)])) rfl rfl (hb hby d4_1)
  obtain ⟨T80, h80, X80, e80, W80, st80⟩ := putF X79 hx hZ hown (host := "") (Or.inl (hw _ (List.mem_of_getElem? (i := 32) rfl))) Via.refl e79 F7 E1 (Or.inl (hw _ (List.mem_of_getElem? (i := 33) rfl))) (hw _ (List.mem_of_getElem? (i := 9) rfl)) (ty := .long) (by decide) rfl rfl (g := (mkF m 22 #[.val (.ref r0), .val (.long q1), .second, .val (.long q1), .second, .unset, .unset] [(.long q1), (.ref r0)])) rfl rfl (hb hby d4_22)
  have K81 : Keep h0 h80 [r0] := (Keep.refl h0 [r0]).wr W80 (Or.inl (List.mem_of_getElem? (i := 0) rfl))
  have c82 : Fld Z h80 r0 "com/example/even_bucket/evenbucket/GreedyBucket" "decidedAt" "J" (.long q1) := F7.same W80
  have N83 := Fr.snoc X80 N0 g1
  have c85 : Fld Z h80 r0 "com/example/even_bucket/evenbucket/GreedyBucket" "unitsPerMilli" "J" (.long um) := (F1.other W80 (Or.inr (slot_ne (Or.inr (hw _ (List.mem_of_getElem? (i := 20) rfl))) (Or.inl (hw _ (List.mem_of_getElem? (i := 33) rfl))) (by decide) (t := .long) (t' := .long) (by decide) (by decide))))
  have c86 : Fld Z h80 r0 "com/example/even_bucket/evenbucket/GreedyBucket" "deficit" "J" (.long (0 : Int64)) := (F4.other W80 (Or.inr (slot_ne (Or.inl (hw _ (List.mem_of_getElem? (i := 41) rfl))) (Or.inl (hw _ (List.mem_of_getElem? (i := 33) rfl))) (by decide) (t := .long) (t' := .long) (by decide) (by decide))))
  have c87 : Fld Z h80 r0 "com/example/even_bucket/evenbucket/GreedyBucket" "newest" "J" (.long (0 : Int64)) := (F5.other W80 (Or.inr (slot_ne (Or.inl (hw _ (List.mem_of_getElem? (i := 39) rfl))) (Or.inl (hw _ (List.mem_of_getElem? (i := 33) rfl))) (by decide) (t := .long) (t' := .long) (by decide) (by decide))))
  have c88 : Exa Z h80 r0 "com/example/even_bucket/evenbucket/GreedyBucket" := (E1.wr W80)
  obtain ⟨cq84, q84, q84'⟩ := c88.cell
  obtain ⟨_, _, ⟨T84, L84, k84, n84⟩, -, X84, ⟨Lc84, hQ84, l84, y84, z84⟩, st84⟩ := X80.privateBack hx (y := (⟨"com/example/even_bucket/evenbucket/GreedyBucket", "deficitAt", "(J)J"⟩ : MethodName)) hown (mvT hZ (hw _ (List.mem_of_getElem? (i := 34) rfl))) (mvT hZ (hw _ (List.mem_of_getElem? (i := 35) rfl))) (Jvm.Kit.selects_private (by decide) (mvT hZ (hw _ (List.mem_of_getElem? (i := 9) rfl))) (mvP hZ (hw _ (List.mem_of_getElem? (i := 36) rfl))) (mvT hZ (hw _ (List.mem_of_getElem? (i := 35) rfl)))) (Cond.privateMethod_at (mvP hZ (hw _ (List.mem_of_getElem? (i := 36) rfl)) (args := #[]))) (mvT hZ (hw _ (List.mem_of_getElem? (i := 37) rfl))) (by decide) (backOf (W := 0) (rm5 l Z a0 hw [] r0 q1 um (0 : Int64) (0 : Int64) h80 n0 (Nat.le_trans Z0 K81.1) c85 c86 c87 (own_nz hm)) hZ (hw _ (List.mem_of_getElem? (i := 37) rfl)) (hw _ (List.mem_of_getElem? (i := 10) rfl)) (by decide) (by decide)) (g := (mkF m 27 #[.val (.ref r0), .val (.long q1), .second, .val (.long q1), .second, .unset, .unset] [(.long q1), (.ref r0)])) rfl (by rw [hml]; rfl) (Steps.refl _) (a := r0) (by rw [e80]; exact q84) q84' (argsL := [(.long q1)]) (rest := []) (lenOf pd__J_J rfl) rfl (by show 2 * 0 + _ ≤ _; exact Nat.le_of_eq rfl) (hb hby d4_27) (fun _ _ => ⟨rfl, e80, (by decide : 0 + 0 ≤ _), (by decide : 0 + 0 ≤ _)⟩)
  dsimp only [Pt.U, Pt.locs, Pt.cells, Pt.slots] at X84 l84 y84 z84 st84 hQ84
  subst l84 y84 z84
  obtain ⟨rfl, Nq84, e84⟩ := hQ84
  have N84 := Fr.app N83 Nq84
  have S89 : ∀ t, Steps p.tables e below (T84.setTop (mkF m 32 #[.val (.ref r0), .val (.long q1), .second, .val (.long q1), .second, .val (.long (f_da q1 (0 : Int64) (0 : Int64) um)), .second] [])) t → Steps p.tables e below (s₁.setTop (entryFrame m #[(.ref r0), (.long q1)] 7)) t := by
    intro t kt
    refine pre0 _ ?_
    show Steps p.tables e below (s₁.setTop (mkF m 0 #[.val (.ref r0), .val (.long q1), .second, .unset, .unset, .unset, .unset] [])) _
    refine XS.aloadN X0.here hx rfl (hb hby d4_0) rfl rfl ?_
    show Steps p.tables e below (s₁.setTop (mkF m 1 #[.val (.ref r0), .val (.long q1), .second, .unset, .unset, .unset, .unset] [(.ref r0)])) _
    refine st79 _ ?_
    show Steps p.tables e below (T79.setTop (mkF m 4 #[.val (.ref r0), .val (.long q1), .second, .unset, .unset, .unset, .unset] [(.int (0 : Int32))])) _
    refine XS.ifYes X79.here hx rfl (pc0 := 4) (pc' := 18) rfl (hb hby d4_4) rfl (XT.i0_eq_t (by decide)) (by decide) (by decide) ?_
    show Steps p.tables e below (T79.setTop (mkF m 18 #[.val (.ref r0), .val (.long q1), .second, .unset, .unset, .unset, .unset] [])) _
    refine XS.lloadN X79.here hx rfl (hb hby d4_18) rfl ?_
    show Steps p.tables e below (T79.setTop (mkF m 19 #[.val (.ref r0), .val (.long q1), .second, .unset, .unset, .unset, .unset] [(.long q1)])) _
    refine XS.lstoreN X79.here hx rfl (hb hby d4_19) rfl (l' := #[.val (.ref r0), .val (.long q1), .second, .val (.long q1), .second, .unset, .unset]) rfl ?_
    show Steps p.tables e below (T79.setTop (mkF m 20 #[.val (.ref r0), .val (.long q1), .second, .val (.long q1), .second, .unset, .unset] [])) _
    refine XS.aloadN X79.here hx rfl (hb hby d4_20) rfl rfl ?_
    show Steps p.tables e below (T79.setTop (mkF m 21 #[.val (.ref r0), .val (.long q1), .second, .val (.long q1), .second, .unset, .unset] [(.ref r0)])) _
    refine XS.lloadN X79.here hx rfl (hb hby d4_21) rfl ?_
    show Steps p.tables e below (T79.setTop (mkF m 22 #[.val (.ref r0), .val (.long q1), .second, .val (.long q1), .second, .unset, .unset] [(.long q1), (.ref r0)])) _
    refine st80 _ ?_
    show Steps p.tables e below (T80.setTop (mkF m 25 #[.val (.ref r0), .val (.long q1), .second, .val (.long q1), .second, .unset, .unset] [])) _
    refine XS.aloadN X80.here hx rfl (hb hby d4_25) rfl rfl ?_
    show Steps p.tables e below (T80.setTop (mkF m 26 #[.val (.ref r0), .val (.long q1), .second, .val (.long q1), .second, .unset, .unset] [(.ref r0)])) _
    refine XS.lloadN X80.here hx rfl (hb hby d4_26) rfl ?_
    show Steps p.tables e below (T80.setTop (mkF m 27 #[.val (.ref r0), .val (.long q1), .second, .val (.long q1), .second, .unset, .unset] [(.long q1), (.ref r0)])) _
    refine st84.trans ?_
    show Steps p.tables e below (T84.setTop (mkF m 30 #[.val (.ref r0), .val (.long q1), .second, .val (.long q1), .second, .unset, .unset] [(.long (f_da q1 (0 : Int64) (0 : Int64) um))])) _
    refine XS.lstore X84.here hx rfl (hb hby d4_30) rfl (l' := #[.val (.ref r0), .val (.long q1), .second, .val (.long q1), .second, .val (.long (f_da q1 (0 : Int64) (0 : Int64) um)), .second]) rfl ?_
    exact kt
  rw [(own_da0 hm : (f_da q1 (0 : Int64) (0 : Int64) um) = (0 : Int64))] at S89
  have c90 : Fld Z h80 r0 "com/example/even_bucket/evenbucket/GreedyBucket" "mostDeficitWithAPermit" "J" (.long us) := (F3.other W80 (Or.inr (slot_ne (Or.inr (hw _ (List.mem_of_getElem? (i := 24) rfl))) (Or.inl (hw _ (List.mem_of_getElem? (i := 33) rfl))) (by decide) (t := .long) (t' := .long) (by decide) (by decide))))
  obtain ⟨T91, X91, e91, st91⟩ := getF X84 hx hZ hown (host := "") (Or.inl (hw _ (List.mem_of_getElem? (i := 23) rfl))) Via.refl e84 c90 (g := (mkF m 35 #[.val (.ref r0), .val (.long q1), .second, .val (.long q1), .second, .val (.long (0 : Int64)), .second] [(.ref r0), (.long (0 : Int64))])) rfl rfl (hb hby d4_35)
  have c92 : Fld Z h80 r0 "com/example/even_bucket/evenbucket/GreedyBucket" "unitsPerPermit" "J" (.long up) := (F2.other W80 (Or.inr (slot_ne (Or.inr (hw _ (List.mem_of_getElem? (i := 22) rfl))) (Or.inl (hw _ (List.mem_of_getElem? (i := 33) rfl))) (by decide) (t := .long) (t' := .long) (by decide) (by decide))))
  obtain ⟨T93, X93, e93, st93⟩ := getF X91 hx hZ hown (host := "") (Or.inl (hw _ (List.mem_of_getElem? (i := 21) rfl))) Via.refl e91 c92 (g := (mkF m 53 #[.val (.ref r0), .val (.long q1), .second, .val (.long q1), .second, .val (.long (0 : Int64)), .second] [(.ref r0), (.long (0 : Int64)), (.ref r0)])) rfl rfl (hb hby d4_53)
  obtain ⟨T94, h94, X94, e94, W94, st94⟩ := putF X93 hx hZ hown (host := "") (Or.inl (hw _ (List.mem_of_getElem? (i := 40) rfl))) Via.refl e93 c86 c88 (Or.inl (hw _ (List.mem_of_getElem? (i := 41) rfl))) (hw _ (List.mem_of_getElem? (i := 9) rfl)) (ty := .long) (by decide) rfl rfl (g := (mkF m 57 #[.val (.ref r0), .val (.long q1), .second, .val (.long q1), .second, .val (.long (0 : Int64)), .second] [(.long ((0 : Int64) + up)), (.ref r0)])) rfl rfl (hb hby d4_57)
  have K95 : Keep h0 h94 [r0] := K81.wr W94 (Or.inl (List.mem_of_getElem? (i := 0) rfl))
  have c96 : Fld Z h94 r0 "com/example/even_bucket/evenbucket/GreedyBucket" "deficit" "J" (.long ((0 : Int64) + up)) := c86.same W94
  have N97 := Fr.snoc X94 N84 g1
  have c98 : Exa Z h94 r0 "com/example/even_bucket/evenbucket/GreedyBucket" := (c88.wr W94)
  have c99 : Fld Z h94 r0 "com/example/even_bucket/evenbucket/GreedyBucket" "newest" "J" (.long (0 : Int64)) := (c87.other W94 (Or.inr (slot_ne (Or.inl (hw _ (List.mem_of_getElem? (i := 39) rfl))) (Or.inl (hw _ (List.mem_of_getElem? (i := 41) rfl))) (by decide) (t := .long) (t' := .long) (by decide) (by decide))))
  obtain ⟨T100, h100, X100, e100, W100, st100⟩ := putF X94 hx hZ hown (host := "") (Or.inl (hw _ (List.mem_of_getElem? (i := 38) rfl))) Via.refl e94 c99 c98 (Or.inl (hw _ (List.mem_of_getElem? (i := 39) rfl))) (hw _ (List.mem_of_getElem? (i := 9) rfl)) (ty := .long) (by decide) rfl rfl (g := (mkF m 62 #[.val (.ref r0), .val (.long q1), .second, .val (.long q1), .second, .val (.long (0 : Int64)), .second] [(.long q1), (.ref r0)])) rfl rfl (hb hby d4_62)
  have K101 : Keep h0 h100 [r0] := K95.wr W100 (Or.inl (List.mem_of_getElem? (i := 0) rfl))
  have c102 : Fld Z h100 r0 "com/example/even_bucket/evenbucket/GreedyBucket" "newest" "J" (.long q1) := c99.same W100
  have N103 := Fr.snoc X100 N97 g1
  have c104 : Exa Z h100 r0 "com/example/even_bucket/evenbucket/GreedyBucket" := (c98.wr W100)
  have c105 : Fld Z h100 r0 "com/example/even_bucket/evenbucket/GreedyBucket" "admitted" "Z" (.int (0 : Int32)) := (((F6.other W80 (Or.inr (slot_ne (Or.inl (hw _ (List.mem_of_getElem? (i := 31) rfl))) (Or.inl (hw _ (List.mem_of_getElem? (i := 33) rfl))) (by decide) (t := .boolean) (t' := .long) (by decide) (by decide)))).other W94 (Or.inr (slot_ne (Or.inl (hw _ (List.mem_of_getElem? (i := 31) rfl))) (Or.inl (hw _ (List.mem_of_getElem? (i := 41) rfl))) (by decide) (t := .boolean) (t' := .long) (by decide) (by decide)))).other W100 (Or.inr (slot_ne (Or.inl (hw _ (List.mem_of_getElem? (i := 31) rfl))) (Or.inl (hw _ (List.mem_of_getElem? (i := 39) rfl))) (by decide) (t := .boolean) (t' := .long) (by decide) (by decide))))
  obtain ⟨T106, h106, X106, e106, W106, st106⟩ := putFN X100 hx hZ hown (hw _ (List.mem_of_getElem? (i := 30) rfl)) Via.refl e100 c105 c104 (Or.inl (hw _ (List.mem_of_getElem? (i := 31) rfl))) (hw _ (List.mem_of_getElem? (i := 9) rfl)) (ty := .boolean) (v' := (.int (1 : Int32))) (by decide) (by decide) (by decide) (g := (mkF m 67 #[.val (.ref r0), .val (.long q1), .second, .val (.long q1), .second, .val (.long (0 : Int64)), .second] [(.int (1 : Int32)), (.ref r0)])) rfl rfl (hb hby d4_67)
  have K107 : Keep h0 h106 [r0] := K101.wr W106 (Or.inl (List.mem_of_getElem? (i := 0) rfl))
  have c108 : Fld Z h106 r0 "com/example/even_bucket/evenbucket/GreedyBucket" "admitted" "Z" (.int (1 : Int32)) := c105.same W106
  have N109 := Fr.snoc X106 N103 g1
  have c110 : Fld Z h106 r0 "com/example/even_bucket/evenbucket/GreedyBucket" "deficit" "J" (.long ((0 : Int64) + up)) := ((c96.other W100 (Or.inr (slot_ne (Or.inl (hw _ (List.mem_of_getElem? (i := 41) rfl))) (Or.inl (hw _ (List.mem_of_getElem? (i := 39) rfl))) (by decide) (t := .long) (t' := .long) (by decide) (by decide)))).other W106 (Or.inr (slot_ne (Or.inl (hw _ (List.mem_of_getElem? (i := 41) rfl))) (Or.inl (hw _ (List.mem_of_getElem? (i := 31) rfl))) (by decide) (t := .long) (t' := .boolean) (by decide) (by decide))))
  obtain ⟨T111, X111, e111, st111⟩ := getF X106 hx hZ hown (host := "") (Or.inl (hw _ (List.mem_of_getElem? (i := 40) rfl))) Via.refl e106 c110 (g := (mkF m 72 #[.val (.ref r0), .val (.long q1), .second, .val (.long q1), .second, .val (.long (0 : Int64)), .second] [(.ref r0), (.ref r0)])) rfl rfl (hb hby d4_72)
  have c113 : Fld Z h106 r0 "com/example/even_bucket/evenbucket/GreedyBucket" "capacity" "I" (.int uc) := ((((F0.other W80 (Or.inr (slot_ne (Or.inr (hw _ (List.mem_of_getElem? (i := 18) rfl))) (Or.inl (hw _ (List.mem_of_getElem? (i := 33) rfl))) (by decide) (t := .int) (t' := .long) (by decide) (by decide)))).other W94 (Or.inr (slot_ne (Or.inr (hw _ (List.mem_of_getElem? (i := 18) rfl))) (Or.inl (hw _ (List.mem_of_getElem? (i := 41) rfl))) (by decide) (t := .int) (t' := .long) (by decide) (by decide)))).other W100 (Or.inr (slot_ne (Or.inr (hw _ (List.mem_of_getElem? (i := 18) rfl))) (Or.inl (hw _ (List.mem_of_getElem? (i := 39) rfl))) (by decide) (t := .int) (t' := .long) (by decide) (by decide)))).other W106 (Or.inr (slot_ne (Or.inr (hw _ (List.mem_of_getElem? (i := 18) rfl))) (Or.inl (hw _ (List.mem_of_getElem? (i := 31) rfl))) (by decide) (t := .int) (t' := .boolean) (by decide) (by decide))))
  have c114 : Fld Z h106 r0 "com/example/even_bucket/evenbucket/GreedyBucket" "unitsPerPermit" "J" (.long up) := (((c92.other W94 (Or.inr (slot_ne (Or.inr (hw _ (List.mem_of_getElem? (i := 22) rfl))) (Or.inl (hw _ (List.mem_of_getElem? (i := 41) rfl))) (by decide) (t := .long) (t' := .long) (by decide) (by decide)))).other W100 (Or.inr (slot_ne (Or.inr (hw _ (List.mem_of_getElem? (i := 22) rfl))) (Or.inl (hw _ (List.mem_of_getElem? (i := 39) rfl))) (by decide) (t := .long) (t' := .long) (by decide) (by decide)))).other W106 (Or.inr (slot_ne (Or.inr (hw _ (List.mem_of_getElem? (i := 22) rfl))) (Or.inl (hw _ (List.mem_of_getElem? (i := 31) rfl))) (by decide) (t := .long) (t' := .boolean) (by decide) (by decide))))
  have c115 : Exa Z h106 r0 "com/example/even_bucket/evenbucket/GreedyBucket" := (c104.wr W106)
  obtain ⟨cq112, q112, q112'⟩ := c115.cell
  obtain ⟨_, _, ⟨T112, L112, k112, n112⟩, -, X112, ⟨Lc112, hQ112, l112, y112, z112⟩, st112⟩ := X111.privateBack hx (y := (⟨"com/example/even_bucket/evenbucket/GreedyBucket", "freeWith", "(J)I"⟩ : MethodName)) hown (mvT hZ (hw _ (List.mem_of_getElem? (i := 53) rfl))) (mvT hZ (hw _ (List.mem_of_getElem? (i := 54) rfl))) (Jvm.Kit.selects_private (by decide) (mvT hZ (hw _ (List.mem_of_getElem? (i := 9) rfl))) (mvP hZ (hw _ (List.mem_of_getElem? (i := 55) rfl))) (mvT hZ (hw _ (List.mem_of_getElem? (i := 54) rfl)))) (Cond.privateMethod_at (mvP hZ (hw _ (List.mem_of_getElem? (i := 55) rfl)) (args := #[]))) (mvT hZ (hw _ (List.mem_of_getElem? (i := 56) rfl))) (by decide) (backOf (W := 0) (rm9 l Z a0 hw [] r0 ((0 : Int64) + up) uc up h106 n0 (Nat.le_trans Z0 K107.1) c113 c114 hp) hZ (hw _ (List.mem_of_getElem? (i := 56) rfl)) (hw _ (List.mem_of_getElem? (i := 10) rfl)) (by decide) (by decide)) (g := (mkF m 75 #[.val (.ref r0), .val (.long q1), .second, .val (.long q1), .second, .val (.long (0 : Int64)), .second] [(.long ((0 : Int64) + up)), (.ref r0)])) rfl (by rw [hml]; rfl) (Steps.refl _) (a := r0) (by rw [e111]; exact q112) q112' (argsL := [(.long ((0 : Int64) + up))]) (rest := []) (lenOf pd__J_I rfl) rfl (by show 2 * 0 + _ ≤ _; exact Nat.le_of_eq rfl) (hb hby d4_75) (fun _ _ => ⟨rfl, e111, (by decide : 0 + 0 ≤ _), (by decide : 0 + 0 ≤ _)⟩)
  dsimp only [Pt.U, Pt.locs, Pt.cells, Pt.slots] at X112 l112 y112 z112 st112 hQ112
  subst l112 y112 z112
  obtain ⟨rfl, Nq112, e112⟩ := hQ112
  have N112 := Fr.app N109 Nq112
  have c117 : Sta Z h106 "java/time/Duration" "ZERO" "Ljava/time/Duration;" (.ref vz) := ((((Sz.wr W80).wr W94).wr W100).wr W106)
  obtain ⟨_, _, ⟨T116, L116, k116, n116⟩, -, X116, ⟨Lc116, hQ116, l116, y116, z116⟩, st116⟩ := Jvm.LawKit.callS X112 hx (y := (⟨"com/example/even_bucket/evenbucket/Decision", "allow", "(J)Lcom/example/even_bucket/evenbucket/Decision;"⟩ : MethodName)) hown (mvT hZ (hw _ (List.mem_of_getElem? (i := 57) rfl))) (mvT hZ (hw _ (List.mem_of_getElem? (i := 58) rfl))) (mvT hZ (hw _ (List.mem_of_getElem? (i := 59) rfl))) (mvT hZ (hw _ (List.mem_of_getElem? (i := 60) rfl))) (by decide) (backOf (W := 0) (rm10 l Z a0 hw [] ((uc - ((f_dru ((0 : Int64) + up) up).toInt32)).toInt64) vz h106 n0 (Nat.le_trans Z0 K107.1) hf c117) hZ (hw _ (List.mem_of_getElem? (i := 60) rfl)) (hw _ (List.mem_of_getElem? (i := 59) rfl)) (by decide) (by decide)) (g := (mkF m 79 #[.val (.ref r0), .val (.long q1), .second, .val (.long q1), .second, .val (.long (0 : Int64)), .second] [(.long ((uc - ((f_dru ((0 : Int64) + up) up).toInt32)).toInt64))])) rfl (by rw [hml]; rfl) (argsL := [(.long ((uc - ((f_dru ((0 : Int64) + up) up).toInt32)).toInt64))]) (rest := []) (lenOf pd__J_Lcom_example_even_bucket_evenbucket_Decision_ rfl) rfl (by show 2 * 0 + _ ≤ _; exact Nat.le_of_eq rfl) (hb hby d4_79) (fun _ _ => ⟨rfl, e112, (by decide : 0 + 1 ≤ _), (by decide : 0 + 3 ≤ _)⟩)
  dsimp only [Pt.U, Pt.locs, Pt.cells, Pt.slots] at X116 l116 y116 z116 st116 hQ116
  subst l116 y116 z116
  obtain ⟨bb_116, rfl, Nq116, Kq116, f116_0, f116_1, f116_2, f116_3⟩ := hQ116
  have K118 : Keep h0 T116.heap [r0] := K107.trans Kq116 (fun x hx => by simp at hx)
  have N116 := Fr.app N112 Nq116
  have ge_bb_116 : n0 ≤ bb_116 := Nat.le_trans (Nat.le_trans Z0 K107.1) f116_0
  have sz_bb_116 : h0.size ≤ bb_116 := Nat.le_trans K107.1 f116_0
  obtain ⟨fs, hrT, hrunT, hendT, hWT, hsameT⟩ := X116.leave (hlocks := BodyLoose.notSynchronized Bd) (v := some (.ref bb_116)) (fun h => by rw [Bd.returns] at h; cases h)
  refine ⟨_, _, S89 _ ?_, hrunT, hendT, _, _, rfl, ?_, ⟨_, rfl⟩, hWT, hsameT.mono (by decide) (by decide)⟩
  · show Steps p.tables e below (T84.setTop (mkF m 32 #[.val (.ref r0), .val (.long q1), .second, .val (.long q1), .second, .val (.long (0 : Int64)), .second] [])) _
    refine XS.lload X84.here hx rfl (hb hby d4_32) rfl ?_
    show Steps p.tables e below (T84.setTop (mkF m 34 #[.val (.ref r0), .val (.long q1), .second, .val (.long q1), .second, .val (.long (0 : Int64)), .second] [(.long (0 : Int64))])) _
    refine XS.aloadN X84.here hx rfl (hb hby d4_34) rfl rfl ?_
    show Steps p.tables e below (T84.setTop (mkF m 35 #[.val (.ref r0), .val (.long q1), .second, .val (.long q1), .second, .val (.long (0 : Int64)), .second] [(.ref r0), (.long (0 : Int64))])) _
    refine st91 _ ?_
    show Steps p.tables e below (T91.setTop (mkF m 38 #[.val (.ref r0), .val (.long q1), .second, .val (.long q1), .second, .val (.long (0 : Int64)), .second] [(.long us), (.long (0 : Int64))])) _
    refine XT.lcmp X91.here hx rfl (hb hby d4_38) rfl ?_
    show Steps p.tables e below (T91.setTop (mkF m 39 #[.val (.ref r0), .val (.long q1), .second, .val (.long q1), .second, .val (.long (0 : Int64)), .second] [(.int (XT.cmpL (0 : Int64) us))])) _
    refine XS.ifYes X91.here hx rfl (pc0 := 39) (pc' := 49) rfl (hb hby d4_39) rfl (XT.ll_le_t hs) (by decide) (by decide) ?_
    show Steps p.tables e below (T91.setTop (mkF m 49 #[.val (.ref r0), .val (.long q1), .second, .val (.long q1), .second, .val (.long (0 : Int64)), .second] [])) _
    refine XS.aloadN X91.here hx rfl (hb hby d4_49) rfl rfl ?_
    show Steps p.tables e below (T91.setTop (mkF m 50 #[.val (.ref r0), .val (.long q1), .second, .val (.long q1), .second, .val (.long (0 : Int64)), .second] [(.ref r0)])) _
    refine XS.lload X91.here hx rfl (hb hby d4_50) rfl ?_
    show Steps p.tables e below (T91.setTop (mkF m 52 #[.val (.ref r0), .val (.long q1), .second, .val (.long q1), .second, .val (.long (0 : Int64)), .second] [(.long (0 : Int64)), (.ref r0)])) _
    refine XS.aloadN X91.here hx rfl (hb hby d4_52) rfl rfl ?_
    show Steps p.tables e below (T91.setTop (mkF m 53 #[.val (.ref r0), .val (.long q1), .second, .val (.long q1), .second, .val (.long (0 : Int64)), .second] [(.ref r0), (.long (0 : Int64)), (.ref r0)])) _
    refine st93 _ ?_
    show Steps p.tables e below (T93.setTop (mkF m 56 #[.val (.ref r0), .val (.long q1), .second, .val (.long q1), .second, .val (.long (0 : Int64)), .second] [(.long up), (.long (0 : Int64)), (.ref r0)])) _
    refine XS.ladd X93.here hx rfl (hb hby d4_56) rfl ?_
    show Steps p.tables e below (T93.setTop (mkF m 57 #[.val (.ref r0), .val (.long q1), .second, .val (.long q1), .second, .val (.long (0 : Int64)), .second] [(.long ((0 : Int64) + up)), (.ref r0)])) _
    refine st94 _ ?_
    show Steps p.tables e below (T94.setTop (mkF m 60 #[.val (.ref r0), .val (.long q1), .second, .val (.long q1), .second, .val (.long (0 : Int64)), .second] [])) _
    refine XS.aloadN X94.here hx rfl (hb hby d4_60) rfl rfl ?_
    show Steps p.tables e below (T94.setTop (mkF m 61 #[.val (.ref r0), .val (.long q1), .second, .val (.long q1), .second, .val (.long (0 : Int64)), .second] [(.ref r0)])) _
    refine XS.lloadN X94.here hx rfl (hb hby d4_61) rfl ?_
    show Steps p.tables e below (T94.setTop (mkF m 62 #[.val (.ref r0), .val (.long q1), .second, .val (.long q1), .second, .val (.long (0 : Int64)), .second] [(.long q1), (.ref r0)])) _
    refine st100 _ ?_
    show Steps p.tables e below (T100.setTop (mkF m 65 #[.val (.ref r0), .val (.long q1), .second, .val (.long q1), .second, .val (.long (0 : Int64)), .second] [])) _
    refine XS.aloadN X100.here hx rfl (hb hby d4_65) rfl rfl ?_
    show Steps p.tables e below (T100.setTop (mkF m 66 #[.val (.ref r0), .val (.long q1), .second, .val (.long q1), .second, .val (.long (0 : Int64)), .second] [(.ref r0)])) _
    refine XS.iconst X100.here hx rfl (hb hby d4_66) ?_
    show Steps p.tables e below (T100.setTop (mkF m 67 #[.val (.ref r0), .val (.long q1), .second, .val (.long q1), .second, .val (.long (0 : Int64)), .second] [(.int (1 : Int32)), (.ref r0)])) _
    refine st106 _ ?_
    show Steps p.tables e below (T106.setTop (mkF m 70 #[.val (.ref r0), .val (.long q1), .second, .val (.long q1), .second, .val (.long (0 : Int64)), .second] [])) _
    refine XS.aloadN X106.here hx rfl (hb hby d4_70) rfl rfl ?_
    show Steps p.tables e below (T106.setTop (mkF m 71 #[.val (.ref r0), .val (.long q1), .second, .val (.long q1), .second, .val (.long (0 : Int64)), .second] [(.ref r0)])) _
    refine XS.aloadN X106.here hx rfl (hb hby d4_71) rfl rfl ?_
    show Steps p.tables e below (T106.setTop (mkF m 72 #[.val (.ref r0), .val (.long q1), .second, .val (.long q1), .second, .val (.long (0 : Int64)), .second] [(.ref r0), (.ref r0)])) _
    refine st111 _ ?_
    show Steps p.tables e below (T111.setTop (mkF m 75 #[.val (.ref r0), .val (.long q1), .second, .val (.long q1), .second, .val (.long (0 : Int64)), .second] [(.long ((0 : Int64) + up)), (.ref r0)])) _
    refine st112.trans ?_
    show Steps p.tables e below (T112.setTop (mkF m 78 #[.val (.ref r0), .val (.long q1), .second, .val (.long q1), .second, .val (.long (0 : Int64)), .second] [(.int (uc - ((f_dru ((0 : Int64) + up) up).toInt32)))])) _
    refine XS.i2l X112.here hx rfl (hb hby d4_78) rfl ?_
    show Steps p.tables e below (T112.setTop (mkF m 79 #[.val (.ref r0), .val (.long q1), .second, .val (.long q1), .second, .val (.long (0 : Int64)), .second] [(.long ((uc - ((f_dru ((0 : Int64) + up) up).toInt32)).toInt64))])) _
    refine st116 _ ?_
    show Steps p.tables e below (T116.setTop (mkF m 82 #[.val (.ref r0), .val (.long q1), .second, .val (.long q1), .second, .val (.long (0 : Int64)), .second] [(.ref bb_116)])) _
    exact retOut X116 hx Bd.returns rfl (by right; right; right; right; exact ⟨rfl, rfl, rfl⟩) (hb hby d4_82) hrT
  · show Q4 Z r0 q1 uc um up us vz h0 n0 _ T116.heap _
    have c119 : Fld Z T116.heap r0 "com/example/even_bucket/evenbucket/GreedyBucket" "capacity" "I" (.int uc) := (c113.keep Kq116 List.not_mem_nil)
    have c120 : Fld Z T116.heap r0 "com/example/even_bucket/evenbucket/GreedyBucket" "unitsPerMilli" "J" (.long um) := ((((c85.other W94 (Or.inr (slot_ne (Or.inr (hw _ (List.mem_of_getElem? (i := 20) rfl))) (Or.inl (hw _ (List.mem_of_getElem? (i := 41) rfl))) (by decide) (t := .long) (t' := .long) (by decide) (by decide)))).other W100 (Or.inr (slot_ne (Or.inr (hw _ (List.mem_of_getElem? (i := 20) rfl))) (Or.inl (hw _ (List.mem_of_getElem? (i := 39) rfl))) (by decide) (t := .long) (t' := .long) (by decide) (by decide)))).other W106 (Or.inr (slot_ne (Or.inr (hw _ (List.mem_of_getElem? (i := 20) rfl))) (Or.inl (hw _ (List.mem_of_getElem? (i := 31) rfl))) (by decide) (t := .long) (t' := .boolean) (by decide) (by decide)))).keep Kq116 List.not_mem_nil)
    have c121 : Fld Z T116.heap r0 "com/example/even_bucket/evenbucket/GreedyBucket" "unitsPerPermit" "J" (.long up) := (c114.keep Kq116 List.not_mem_nil)
    have c122 : Fld Z T116.heap r0 "com/example/even_bucket/evenbucket/GreedyBucket" "mostDeficitWithAPermit" "J" (.long us) := ((((c90.other W94 (Or.inr (slot_ne (Or.inr (hw _ (List.mem_of_getElem? (i := 24) rfl))) (Or.inl (hw _ (List.mem_of_getElem? (i := 41) rfl))) (by decide) (t := .long) (t' := .long) (by decide) (by decide)))).other W100 (Or.inr (slot_ne (Or.inr (hw _ (List.mem_of_getElem? (i := 24) rfl))) (Or.inl (hw _ (List.mem_of_getElem? (i := 39) rfl))) (by decide) (t := .long) (t' := .long) (by decide) (by decide)))).other W106 (Or.inr (slot_ne (Or.inr (hw _ (List.mem_of_getElem? (i := 24) rfl))) (Or.inl (hw _ (List.mem_of_getElem? (i := 31) rfl))) (by decide) (t := .long) (t' := .boolean) (by decide) (by decide)))).keep Kq116 List.not_mem_nil)
    have c123 : Fld Z T116.heap r0 "com/example/even_bucket/evenbucket/GreedyBucket" "deficit" "J" (.long ((0 : Int64) + up)) := (c110.keep Kq116 List.not_mem_nil)
    have c124 : Fld Z T116.heap r0 "com/example/even_bucket/evenbucket/GreedyBucket" "newest" "J" (.long q1) := ((c102.other W106 (Or.inr (slot_ne (Or.inl (hw _ (List.mem_of_getElem? (i := 39) rfl))) (Or.inl (hw _ (List.mem_of_getElem? (i := 31) rfl))) (by decide) (t := .long) (t' := .boolean) (by decide) (by decide)))).keep Kq116 List.not_mem_nil)
    have c125 : Fld Z T116.heap r0 "com/example/even_bucket/evenbucket/GreedyBucket" "admitted" "Z" (.int (1 : Int32)) := (c108.keep Kq116 List.not_mem_nil)
    have c126 : Fld Z T116.heap r0 "com/example/even_bucket/evenbucket/GreedyBucket" "decidedAt" "J" (.long q1) := ((((c82.other W94 (Or.inr (slot_ne (Or.inl (hw _ (List.mem_of_getElem? (i := 33) rfl))) (Or.inl (hw _ (List.mem_of_getElem? (i := 41) rfl))) (by decide) (t := .long) (t' := .long) (by decide) (by decide)))).other W100 (Or.inr (slot_ne (Or.inl (hw _ (List.mem_of_getElem? (i := 33) rfl))) (Or.inl (hw _ (List.mem_of_getElem? (i := 39) rfl))) (by decide) (t := .long) (t' := .long) (by decide) (by decide)))).other W106 (Or.inr (slot_ne (Or.inl (hw _ (List.mem_of_getElem? (i := 33) rfl))) (Or.inl (hw _ (List.mem_of_getElem? (i := 31) rfl))) (by decide) (t := .long) (t' := .boolean) (by decide) (by decide)))).keep Kq116 List.not_mem_nil)
    exact ⟨bb_116, rfl, N116, K118, c119, c120, c121, c122, c123, c124, c125, c126⟩
theorem d12_0 : decode prog_26_method_7_code 0 = .ok (.aload_n 0, 1) := by decide +kernel
theorem d12_1 : decode prog_26_method_7_code 1 = .ok (.dup, 1) := by decide +kernel
theorem d12_2 : decode prog_26_method_7_code 2 = .ok (.getfield 50, 3) := by decide +kernel
theorem d12_5 : decode prog_26_method_7_code 5 = .ok (.iload_n 1, 1) := by decide +kernel
theorem d12_6 : decode prog_26_method_7_code 6 = .ok (.i2l, 1) := by decide +kernel
theorem d12_7 : decode prog_26_method_7_code 7 = .ok (.aload_n 0, 1) := by decide +kernel
theorem d12_8 : decode prog_26_method_7_code 8 = .ok (.getfield 17, 3) := by decide +kernel
theorem d12_11 : decode prog_26_method_7_code 11 = .ok (.lmul, 1) := by decide +kernel
theorem d12_12 : decode prog_26_method_7_code 12 = .ok (.ladd, 1) := by decide +kernel
theorem d12_13 : decode prog_26_method_7_code 13 = .ok (.putfield 50, 3) := by decide +kernel
theorem d12_16 : decode prog_26_method_7_code 16 = .ok (.return_, 1) := by decide +kernel
theorem ef12 (m : MethodId) (x0 : Addr) (x1 : Int32) : entryFrame m #[(.ref x0), (.int x1)] 2 = mkF m 0 #[.val (.ref x0), .val (.int x1)] [] := by first | (simp [entryFrame, mkF, argsToLocals, Value.category]; done) | rfl
def Q12 (Z : State) (r0 : Addr) (p1 : Int32) (uc : Int32) (um : Int64) (up : Int64) (us : Int64) (ud : Int64) (un : Int64) (ua : Int32) (ut : Int64) (h0 : Heap) (n0 : Nat) (v : Option Value) (h : Heap) (L : List Loc) : Prop := v = none ∧ Fr n0 L ∧ Keep h0 h [r0] ∧ Fld Z h r0 "com/example/even_bucket/evenbucket/GreedyBucket" "capacity" "I" (.int uc) ∧ Fld Z h r0 "com/example/even_bucket/evenbucket/GreedyBucket" "unitsPerMilli" "J" (.long um) ∧ Fld Z h r0 "com/example/even_bucket/evenbucket/GreedyBucket" "unitsPerPermit" "J" (.long up) ∧ Fld Z h r0 "com/example/even_bucket/evenbucket/GreedyBucket" "mostDeficitWithAPermit" "J" (.long us) ∧ Fld Z h r0 "com/example/even_bucket/evenbucket/GreedyBucket" "deficit" "J" (.long (ud + ((p1.toInt64) * up))) ∧ Fld Z h r0 "com/example/even_bucket/evenbucket/GreedyBucket" "newest" "J" (.long un) ∧ Fld Z h r0 "com/example/even_bucket/evenbucket/GreedyBucket" "admitted" "Z" (.int ua) ∧ Fld Z h r0 "com/example/even_bucket/evenbucket/GreedyBucket" "decidedAt" "J" (.long ut)
set_option maxRecDepth 65536 in
set_option maxHeartbeats 40000000 in
theorem rm12 (l : Launch) (Z : State) (a0 : Array Value) (hw : ∀ d ∈ tables_1, d.before a0 Z = true) (ws : List Jvm.Cond) (r0 : Addr) (p1 : Int32) (uc : Int32) (um : Int64) (up : Int64) (us : Int64) (ud : Int64) (un : Int64) (ua : Int32) (ut : Int64) (h0 : Heap) (n0 : Nat) (Z0 : n0 ≤ h0.size) (F0 : Fld Z h0 r0 "com/example/even_bucket/evenbucket/GreedyBucket" "capacity" "I" (.int uc)) (F1 : Fld Z h0 r0 "com/example/even_bucket/evenbucket/GreedyBucket" "unitsPerMilli" "J" (.long um)) (F2 : Fld Z h0 r0 "com/example/even_bucket/evenbucket/GreedyBucket" "unitsPerPermit" "J" (.long up)) (F3 : Fld Z h0 r0 "com/example/even_bucket/evenbucket/GreedyBucket" "mostDeficitWithAPermit" "J" (.long us)) (F4 : Fld Z h0 r0 "com/example/even_bucket/evenbucket/GreedyBucket" "deficit" "J" (.long ud)) (F5 : Fld Z h0 r0 "com/example/even_bucket/evenbucket/GreedyBucket" "newest" "J" (.long un)) (F6 : Fld Z h0 r0 "com/example/even_bucket/evenbucket/GreedyBucket" "admitted" "Z" (.int ua)) (F7 : Fld Z h0 r0 "com/example/even_bucket/evenbucket/GreedyBucket" "decidedAt" "J" (.long ut)) (E1 : Exa Z h0 r0 "com/example/even_bucket/evenbucket/GreedyBucket") (g1 : n0 ≤ r0) :
    MetFree l (⟨"com/example/even_bucket/evenbucket/GreedyBucket", "recordAtLatestDecision", "(I)V"⟩ : MethodName) (head1 (Jvm.Cond.code (⟨"com/example/even_bucket/evenbucket/GreedyBucket", "recordAtLatestDecision", "(I)V"⟩ : MethodName) prog_26_method_7_code 2 none :: ws) ({ frames := 0, cells := 0, slots := 0, locals := 0 } : Room)) (fun a U => a = #[(.ref r0), (.int p1)] ∧ Z.Warmed39 U.vm ∧ U.heap = h0) (fun _ _ _ _ _ => True) (fun _ U o U' => ∃ v L, o = .returned v ∧ Q12 Z r0 p1 uc um up us ud un ua ut h0 n0 v U'.heap L ∧ FrameEnd U o U' L ({ frames := 0, cells := 0, slots := 0, locals := 0 } : Room).cells ({ frames := 0, cells := 0, slots := 0, locals := 0 } : Room).slots) := by
  refine MetFree.of_bodySF (plainFor_of_name pn_GreedyBucket) hisR ?_
  intro p e s m args below meth c s₁ Bd hml0 hP hK
  obtain ⟨rfl, hZ, hh⟩ := hP
  have hx := Bd.exec
  have hby := Bd.bytes
  have hml : c.maxLocals = 2 := hml0
  have hown : s.vm.findClass "com/example/even_bucket/evenbucket/GreedyBucket" = some m.cls := findClass_of_methodNamed Bd.named
  have hnm := (name_of_methodNamed Bd.named Bd.method).1
  have X0 : Stand p l e ({ frames := 0, cells := 0, slots := 0, locals := 0 } : Room) s m #[(.ref r0), (.int p1)] below meth c s₁ [] 0 0 := Stand.of_body Bd
  have e0 : s₁.heap = h0 := by rw [← hh, Bd.state]; rfl
  have N0 := Fr.nil n0
  have pre0 : ∀ t, Steps p.tables e below (s₁.setTop (mkF m 0 #[.val (.ref r0), .val (.int p1)] [])) t → Steps p.tables e below (s₁.setTop (entryFrame m #[(.ref r0), (.int p1)] 2)) t := fun t k => castTop (ef12 m r0 p1) k
  obtain ⟨T127, X127, e127, st127⟩ := getF X0 hx hZ hown (host := "") (Or.inl (hw _ (List.mem_of_getElem? (i := 40) rfl))) Via.refl e0 F4 (g := (mkF m 2 #[.val (.ref r0), .val (.int p1)] [(.ref r0), (.ref r0)])) rfl rfl (hb hby d12_2)
  obtain ⟨T128, X128, e128, st128⟩ := getF X127 hx hZ hown (host := "") (Or.inl (hw _ (List.mem_of_getElem? (i := 21) rfl))) Via.refl e127 F2 (g := (mkF m 8 #[.val (.ref r0), .val (.int p1)] [(.ref r0), (.long (p1.toInt64)), (.long ud), (.ref r0)])) rfl rfl (hb hby d12_8)
  obtain ⟨T129, h129, X129, e129, W129, st129⟩ := putF X128 hx hZ hown (host := "") (Or.inl (hw _ (List.mem_of_getElem? (i := 40) rfl))) Via.refl e128 F4 E1 (Or.inl (hw _ (List.mem_of_getElem? (i := 41) rfl))) (hw _ (List.mem_of_getElem? (i := 9) rfl)) (ty := .long) (by decide) rfl rfl (g := (mkF m 13 #[.val (.ref r0), .val (.int p1)] [(.long (ud + ((p1.toInt64) * up))), (.ref r0)])) rfl rfl (hb hby d12_13)
  have K130 : Keep h0 h129 [r0] := (Keep.refl h0 [r0]).wr W129 (Or.inl (List.mem_of_getElem? (i := 0) rfl))
  have c131 : Fld Z h129 r0 "com/example/even_bucket/evenbucket/GreedyBucket" "deficit" "J" (.long (ud + ((p1.toInt64) * up))) := F4.same W129
  have N132 := Fr.snoc X129 N0 g1
  obtain ⟨fs, hrT, hrunT, hendT, hWT, hsameT⟩ := X129.leave (hlocks := BodyLoose.notSynchronized Bd) (v := none) (fun _ => rfl)
  refine ⟨_, _, pre0 _ ?_, hrunT, hendT, _, _, rfl, ?_, ⟨_, rfl⟩, hWT, hsameT.mono (by decide) (by decide)⟩
  · show Steps p.tables e below (s₁.setTop (mkF m 0 #[.val (.ref r0), .val (.int p1)] [])) _
    refine XS.aloadN X0.here hx rfl (hb hby d12_0) rfl rfl ?_
    show Steps p.tables e below (s₁.setTop (mkF m 1 #[.val (.ref r0), .val (.int p1)] [(.ref r0)])) _
    refine XS.dup X0.here hx rfl (hb hby d12_1) rfl rfl ?_
    show Steps p.tables e below (s₁.setTop (mkF m 2 #[.val (.ref r0), .val (.int p1)] [(.ref r0), (.ref r0)])) _
    refine st127 _ ?_
    show Steps p.tables e below (T127.setTop (mkF m 5 #[.val (.ref r0), .val (.int p1)] [(.long ud), (.ref r0)])) _
    refine XS.iloadN X127.here hx rfl (hb hby d12_5) rfl ?_
    show Steps p.tables e below (T127.setTop (mkF m 6 #[.val (.ref r0), .val (.int p1)] [(.int p1), (.long ud), (.ref r0)])) _
    refine XS.i2l X127.here hx rfl (hb hby d12_6) rfl ?_
    show Steps p.tables e below (T127.setTop (mkF m 7 #[.val (.ref r0), .val (.int p1)] [(.long (p1.toInt64)), (.long ud), (.ref r0)])) _
    refine XS.aloadN X127.here hx rfl (hb hby d12_7) rfl rfl ?_
    show Steps p.tables e below (T127.setTop (mkF m 8 #[.val (.ref r0), .val (.int p1)] [(.ref r0), (.long (p1.toInt64)), (.long ud), (.ref r0)])) _
    refine st128 _ ?_
    show Steps p.tables e below (T128.setTop (mkF m 11 #[.val (.ref r0), .val (.int p1)] [(.long up), (.long (p1.toInt64)), (.long ud), (.ref r0)])) _
    refine XS.lmul X128.here hx rfl (hb hby d12_11) rfl ?_
    show Steps p.tables e below (T128.setTop (mkF m 12 #[.val (.ref r0), .val (.int p1)] [(.long ((p1.toInt64) * up)), (.long ud), (.ref r0)])) _
    refine XS.ladd X128.here hx rfl (hb hby d12_12) rfl ?_
    show Steps p.tables e below (T128.setTop (mkF m 13 #[.val (.ref r0), .val (.int p1)] [(.long (ud + ((p1.toInt64) * up))), (.ref r0)])) _
    refine st129 _ ?_
    show Steps p.tables e below (T129.setTop (mkF m 16 #[.val (.ref r0), .val (.int p1)] [])) _
    exact X129.returnOut hx Bd.returns (hb hby d12_16) hrT
  · show Q12 Z r0 p1 uc um up us ud un ua ut h0 n0 _ T129.heap _
    rw [e129]
    have c133 : Fld Z h129 r0 "com/example/even_bucket/evenbucket/GreedyBucket" "capacity" "I" (.int uc) := (F0.other W129 (Or.inr (slot_ne (Or.inr (hw _ (List.mem_of_getElem? (i := 18) rfl))) (Or.inl (hw _ (List.mem_of_getElem? (i := 41) rfl))) (by decide) (t := .int) (t' := .long) (by decide) (by decide))))
    have c134 : Fld Z h129 r0 "com/example/even_bucket/evenbucket/GreedyBucket" "unitsPerMilli" "J" (.long um) := (F1.other W129 (Or.inr (slot_ne (Or.inr (hw _ (List.mem_of_getElem? (i := 20) rfl))) (Or.inl (hw _ (List.mem_of_getElem? (i := 41) rfl))) (by decide) (t := .long) (t' := .long) (by decide) (by decide))))
    have c135 : Fld Z h129 r0 "com/example/even_bucket/evenbucket/GreedyBucket" "unitsPerPermit" "J" (.long up) := (F2.other W129 (Or.inr (slot_ne (Or.inr (hw _ (List.mem_of_getElem? (i := 22) rfl))) (Or.inl (hw _ (List.mem_of_getElem? (i := 41) rfl))) (by decide) (t := .long) (t' := .long) (by decide) (by decide))))
    have c136 : Fld Z h129 r0 "com/example/even_bucket/evenbucket/GreedyBucket" "mostDeficitWithAPermit" "J" (.long us) := (F3.other W129 (Or.inr (slot_ne (Or.inr (hw _ (List.mem_of_getElem? (i := 24) rfl))) (Or.inl (hw _ (List.mem_of_getElem? (i := 41) rfl))) (by decide) (t := .long) (t' := .long) (by decide) (by decide))))
    have c137 : Fld Z h129 r0 "com/example/even_bucket/evenbucket/GreedyBucket" "newest" "J" (.long un) := (F5.other W129 (Or.inr (slot_ne (Or.inl (hw _ (List.mem_of_getElem? (i := 39) rfl))) (Or.inl (hw _ (List.mem_of_getElem? (i := 41) rfl))) (by decide) (t := .long) (t' := .long) (by decide) (by decide))))
    have c138 : Fld Z h129 r0 "com/example/even_bucket/evenbucket/GreedyBucket" "admitted" "Z" (.int ua) := (F6.other W129 (Or.inr (slot_ne (Or.inl (hw _ (List.mem_of_getElem? (i := 31) rfl))) (Or.inl (hw _ (List.mem_of_getElem? (i := 41) rfl))) (by decide) (t := .boolean) (t' := .long) (by decide) (by decide))))
    have c139 : Fld Z h129 r0 "com/example/even_bucket/evenbucket/GreedyBucket" "decidedAt" "J" (.long ut) := (F7.other W129 (Or.inr (slot_ne (Or.inl (hw _ (List.mem_of_getElem? (i := 33) rfl))) (Or.inl (hw _ (List.mem_of_getElem? (i := 41) rfl))) (by decide) (t := .long) (t' := .long) (by decide) (by decide))))
    exact ⟨rfl, N132, K130, c133, c134, c135, c136, c131, c137, c138, c139⟩
theorem d15_0 : decode prog_26_method_9_code 0 = .ok (.lload_n 0, 1) := by decide +kernel
theorem d15_1 : decode prog_26_method_9_code 1 = .ok (.lload_n 2, 1) := by decide +kernel
theorem d15_2 : decode prog_26_method_9_code 2 = .ok (.invokestatic 67, 3) := by decide +kernel
theorem d15_5 : decode prog_26_method_9_code 5 = .ok (.lreturn, 1) := by decide +kernel
theorem ef15 (m : MethodId) (x0 : Int64) (x1 : Int64) : entryFrame m #[(.long x0), (.long x1)] 4 = mkF m 0 #[.val (.long x0), .second, .val (.long x1), .second] [] := by first | (simp [entryFrame, mkF, argsToLocals, Value.category]; done) | rfl
def Q15 (Z : State) (q0 : Int64) (q1 : Int64) (h0 : Heap) (n0 : Nat) (v : Option Value) (h : Heap) (L : List Loc) : Prop := v = some (.long (f_dru q0 q1)) ∧ Fr n0 L ∧ h = h0
set_option maxRecDepth 65536 in
set_option maxHeartbeats 40000000 in
theorem rm15 (l : Launch) (Z : State) (a0 : Array Value) (hw : ∀ d ∈ tables_1, d.before a0 Z = true) (ws : List Jvm.Cond) (q0 : Int64) (q1 : Int64) (h0 : Heap) (n0 : Nat) (Z0 : n0 ≤ h0.size) (hz : ¬ q1 = 0) :
    MetFree l (⟨"com/example/even_bucket/evenbucket/GreedyBucket", "untilAPermit", "(JJ)J"⟩ : MethodName) (head1 (Jvm.Cond.code (⟨"com/example/even_bucket/evenbucket/GreedyBucket", "untilAPermit", "(JJ)J"⟩ : MethodName) prog_26_method_9_code 4 (some .long) :: ws) ({ frames := 1, cells := 0, slots := 0, locals := 15 } : Room)) (fun a U => a = #[(.long q0), (.long q1)] ∧ Z.Warmed39 U.vm ∧ U.heap = h0) (fun _ _ _ _ _ => True) (fun _ U o U' => ∃ v L, o = .returned v ∧ Q15 Z q0 q1 h0 n0 v U'.heap L ∧ FrameEnd U o U' L ({ frames := 1, cells := 0, slots := 0, locals := 15 } : Room).cells ({ frames := 1, cells := 0, slots := 0, locals := 15 } : Room).slots) := by
  refine MetFree.of_bodySF (plainFor_of_name pn_GreedyBucket) hisR ?_
  intro p e s m args below meth c s₁ Bd hml0 hP hK
  obtain ⟨rfl, hZ, hh⟩ := hP
  have hx := Bd.exec
  have hby := Bd.bytes
  have hml : c.maxLocals = 4 := hml0
  have hown : s.vm.findClass "com/example/even_bucket/evenbucket/GreedyBucket" = some m.cls := findClass_of_methodNamed Bd.named
  have hnm := (name_of_methodNamed Bd.named Bd.method).1
  have X0 : Stand p l e ({ frames := 1, cells := 0, slots := 0, locals := 15 } : Room) s m #[(.long q0), (.long q1)] below meth c s₁ [] 0 0 := Stand.of_body Bd
  have e0 : s₁.heap = h0 := by rw [← hh, Bd.state]; rfl
  have N0 := Fr.nil n0
  have pre0 : ∀ t, Steps p.tables e below (s₁.setTop (mkF m 0 #[.val (.long q0), .second, .val (.long q1), .second] [])) t → Steps p.tables e below (s₁.setTop (entryFrame m #[(.long q0), (.long q1)] 4)) t := fun t k => castTop (ef15 m q0 q1) k
  obtain ⟨_, _, ⟨T140, L140, k140, n140⟩, -, X140, ⟨Lc140, hQ140, l140, y140, z140⟩, st140⟩ := Jvm.LawKit.callS X0 hx (y := (⟨"com/example/even_bucket/evenbucket/GreedyBucket", "divideRoundingUp", "(JJ)J"⟩ : MethodName)) hown (mvT hZ (hw _ (List.mem_of_getElem? (i := 42) rfl))) (mvT hZ (hw _ (List.mem_of_getElem? (i := 43) rfl))) (mvT hZ (hw _ (List.mem_of_getElem? (i := 10) rfl))) (mvT hZ (hw _ (List.mem_of_getElem? (i := 44) rfl))) (by decide) (backOf (W := 0) (rm6 l Z a0 hw [] q0 q1 h0 n0 Z0 hz) hZ (hw _ (List.mem_of_getElem? (i := 44) rfl)) (hw _ (List.mem_of_getElem? (i := 10) rfl)) (by decide) (by decide)) (g := (mkF m 2 #[.val (.long q0), .second, .val (.long q1), .second] [(.long q1), (.long q0)])) rfl (by rw [hml]; rfl) (argsL := [(.long q0), (.long q1)]) (rest := []) (lenOf pd__JJ_J rfl) rfl (by show 2 * 0 + _ ≤ _; exact Nat.le_of_eq rfl) (hb hby d15_2) (fun _ _ => ⟨rfl, e0, (by decide : 0 + 0 ≤ _), (by decide : 0 + 0 ≤ _)⟩)
  dsimp only [Pt.U, Pt.locs, Pt.cells, Pt.slots] at X140 l140 y140 z140 st140 hQ140
  subst l140 y140 z140
  obtain ⟨rfl, Nq140, e140⟩ := hQ140
  have N140 := Fr.app N0 Nq140
  obtain ⟨fs, hrT, hrunT, hendT, hWT, hsameT⟩ := X140.leave (hlocks := BodyLoose.notSynchronized Bd) (v := some (.long (f_dru q0 q1))) (fun h => by rw [Bd.returns] at h; cases h)
  refine ⟨_, _, pre0 _ ?_, hrunT, hendT, _, _, rfl, ?_, ⟨_, rfl⟩, hWT, hsameT.mono (by decide) (by decide)⟩
  · show Steps p.tables e below (s₁.setTop (mkF m 0 #[.val (.long q0), .second, .val (.long q1), .second] [])) _
    refine XS.lloadN X0.here hx rfl (hb hby d15_0) rfl ?_
    show Steps p.tables e below (s₁.setTop (mkF m 1 #[.val (.long q0), .second, .val (.long q1), .second] [(.long q0)])) _
    refine XS.lloadN X0.here hx rfl (hb hby d15_1) rfl ?_
    show Steps p.tables e below (s₁.setTop (mkF m 2 #[.val (.long q0), .second, .val (.long q1), .second] [(.long q1), (.long q0)])) _
    refine st140 _ ?_
    show Steps p.tables e below (T140.setTop (mkF m 5 #[.val (.long q0), .second, .val (.long q1), .second] [(.long (f_dru q0 q1))])) _
    exact retOut X140 hx Bd.returns rfl (by right; left; exact ⟨rfl, rfl, _, rfl⟩) (hb hby d15_5) hrT
  · show Q15 Z q0 q1 h0 n0 _ T140.heap _
    rw [e140]
    exact ⟨rfl, N140, rfl⟩
theorem d18_0 : decode jdk_2316_method_17_code 0 = .ok (.aload_n 0, 1) := by decide +kernel
theorem d18_1 : decode jdk_2316_method_17_code 1 = .ok (.invokespecial 218, 3) := by decide +kernel
theorem d18_4 : decode jdk_2316_method_17_code 4 = .ok (.aload_n 0, 1) := by decide +kernel
theorem d18_5 : decode jdk_2316_method_17_code 5 = .ok (.lload_n 1, 1) := by decide +kernel
theorem d18_6 : decode jdk_2316_method_17_code 6 = .ok (.putfield 221, 3) := by decide +kernel
theorem d18_9 : decode jdk_2316_method_17_code 9 = .ok (.aload_n 0, 1) := by decide +kernel
theorem d18_10 : decode jdk_2316_method_17_code 10 = .ok (.iload_n 3, 1) := by decide +kernel
theorem d18_11 : decode jdk_2316_method_17_code 11 = .ok (.putfield 224, 3) := by decide +kernel
theorem d18_14 : decode jdk_2316_method_17_code 14 = .ok (.return_, 1) := by decide +kernel
theorem pn_Duration : plainName "java/time/Duration" = true := by first | (simp [plainName, overriddenIn]; done) | decide +kernel
theorem ef18 (m : MethodId) (x0 : Addr) (x1 : Int64) (x2 : Int32) : entryFrame m #[(.ref x0), (.long x1), (.int x2)] 4 = mkF m 0 #[.val (.ref x0), .val (.long x1), .second, .val (.int x2)] [] := by first | (simp [entryFrame, mkF, argsToLocals, Value.category]; done) | rfl
def Q18 (Z : State) (r0 : Addr) (q1 : Int64) (p2 : Int32) (h0 : Heap) (n0 : Nat) (v : Option Value) (h : Heap) (L : List Loc) : Prop := v = none ∧ Fr n0 L ∧ Keep h0 h [r0] ∧ Fld Z h r0 "java/time/Duration" "seconds" "J" (.long q1) ∧ Fld Z h r0 "java/time/Duration" "nanos" "I" (.int p2)
set_option maxRecDepth 65536 in
set_option maxHeartbeats 40000000 in
theorem rm18 (l : Launch) (Z : State) (a0 : Array Value) (hw : ∀ d ∈ tables_1, d.before a0 Z = true) (ws : List Jvm.Cond) (r0 : Addr) (q1 : Int64) (p2 : Int32) (h0 : Heap) (n0 : Nat) (Z0 : n0 ≤ h0.size) (F0 : Fld Z h0 r0 "java/time/Duration" "seconds" "J" (.long (0 : Int64))) (F1 : Fld Z h0 r0 "java/time/Duration" "nanos" "I" (.int (0 : Int32))) (E1 : Exa Z h0 r0 "java/time/Duration") (g1 : n0 ≤ r0) :
    MetFree l (⟨"java/time/Duration", "<init>", "(JI)V"⟩ : MethodName) (head1 (Jvm.Cond.code (⟨"java/time/Duration", "<init>", "(JI)V"⟩ : MethodName) jdk_2316_method_17_code 4 none :: ws) ({ frames := 1, cells := 0, slots := 0, locals := 12 } : Room)) (fun a U => a = #[(.ref r0), (.long q1), (.int p2)] ∧ Z.Warmed39 U.vm ∧ U.heap = h0) (fun _ _ _ _ _ => True) (fun _ U o U' => ∃ v L, o = .returned v ∧ Q18 Z r0 q1 p2 h0 n0 v U'.heap L ∧ FrameEnd U o U' L ({ frames := 1, cells := 0, slots := 0, locals := 12 } : Room).cells ({ frames := 1, cells := 0, slots := 0, locals := 12 } : Room).slots) := by
  refine MetFree.of_bodySF (plainFor_of_name pn_Duration) hisR ?_
  intro p e s m args below meth c s₁ Bd hml0 hP hK
  obtain ⟨rfl, hZ, hh⟩ := hP
  have hx := Bd.exec
  have hby := Bd.bytes
  have hml : c.maxLocals = 4 := hml0
  have hown : s.vm.findClass "java/time/Duration" = some m.cls := findClass_of_methodNamed Bd.named
  have hnm := (name_of_methodNamed Bd.named Bd.method).1
  have X0 : Stand p l e ({ frames := 1, cells := 0, slots := 0, locals := 12 } : Room) s m #[(.ref r0), (.long q1), (.int p2)] below meth c s₁ [] 0 0 := Stand.of_body Bd
  have e0 : s₁.heap = h0 := by rw [← hh, Bd.state]; rfl
  have N0 := Fr.nil n0
  have pre0 : ∀ t, Steps p.tables e below (s₁.setTop (mkF m 0 #[.val (.ref r0), .val (.long q1), .second, .val (.int p2)] [])) t → Steps p.tables e below (s₁.setTop (entryFrame m #[(.ref r0), (.long q1), (.int p2)] 4)) t := fun t k => castTop (ef18 m r0 q1 p2) k
  obtain ⟨T141, X141, e141, st141⟩ := initO X0 hx hZ hown (hw _ (List.mem_of_getElem? (i := 109) rfl)) (hw _ (List.mem_of_getElem? (i := 15) rfl)) (hw _ (List.mem_of_getElem? (i := 16) rfl)) e0 (g := (mkF m 1 #[.val (.ref r0), .val (.long q1), .second, .val (.int p2)] [(.ref r0)])) rfl (by rw [hml]; rfl) rfl (hb hby d18_1) (by decide) (W := 0) (by show 2 * 0 + _ ≤ _; exact Nat.le_of_eq rfl) (by decide)
  obtain ⟨T142, h142, X142, e142, W142, st142⟩ := putF X141 hx hZ hown (host := "") (Or.inl (hw _ (List.mem_of_getElem? (i := 110) rfl))) Via.refl e141 F0 E1 (Or.inr ⟨(hw _ (List.mem_of_getElem? (i := 111) rfl)), rfl, hnm⟩) (hw _ (List.mem_of_getElem? (i := 104) rfl)) (ty := .long) (by decide) rfl rfl (g := (mkF m 6 #[.val (.ref r0), .val (.long q1), .second, .val (.int p2)] [(.long q1), (.ref r0)])) rfl rfl (hb hby d18_6)
  have K143 : Keep h0 h142 [r0] := (Keep.refl h0 [r0]).wr W142 (Or.inl (List.mem_of_getElem? (i := 0) rfl))
  have c144 : Fld Z h142 r0 "java/time/Duration" "seconds" "J" (.long q1) := F0.same W142
  have N145 := Fr.snoc X142 N0 g1
  have c146 : Exa Z h142 r0 "java/time/Duration" := (E1.wr W142)
  have c147 : Fld Z h142 r0 "java/time/Duration" "nanos" "I" (.int (0 : Int32)) := (F1.other W142 (Or.inr (slot_ne (Or.inr (hw _ (List.mem_of_getElem? (i := 113) rfl))) (Or.inr (hw _ (List.mem_of_getElem? (i := 111) rfl))) (by decide) (t := .int) (t' := .long) (by decide) (by decide))))
  obtain ⟨T148, h148, X148, e148, W148, st148⟩ := putF X142 hx hZ hown (host := "") (Or.inl (hw _ (List.mem_of_getElem? (i := 112) rfl))) Via.refl e142 c147 c146 (Or.inr ⟨(hw _ (List.mem_of_getElem? (i := 113) rfl)), rfl, hnm⟩) (hw _ (List.mem_of_getElem? (i := 104) rfl)) (ty := .int) (by decide) rfl rfl (g := (mkF m 11 #[.val (.ref r0), .val (.long q1), .second, .val (.int p2)] [(.int p2), (.ref r0)])) rfl rfl (hb hby d18_11)
  have K149 : Keep h0 h148 [r0] := K143.wr W148 (Or.inl (List.mem_of_getElem? (i := 0) rfl))
  have c150 : Fld Z h148 r0 "java/time/Duration" "nanos" "I" (.int p2) := c147.same W148
  have N151 := Fr.snoc X148 N145 g1
  obtain ⟨fs, hrT, hrunT, hendT, hWT, hsameT⟩ := X148.leave (hlocks := BodyLoose.notSynchronized Bd) (v := none) (fun _ => rfl)
  refine ⟨_, _, pre0 _ ?_, hrunT, hendT, _, _, rfl, ?_, ⟨_, rfl⟩, hWT, hsameT.mono (by decide) (by decide)⟩
  · show Steps p.tables e below (s₁.setTop (mkF m 0 #[.val (.ref r0), .val (.long q1), .second, .val (.int p2)] [])) _
    refine XS.aloadN X0.here hx rfl (hb hby d18_0) rfl rfl ?_
    show Steps p.tables e below (s₁.setTop (mkF m 1 #[.val (.ref r0), .val (.long q1), .second, .val (.int p2)] [(.ref r0)])) _
    refine st141 _ ?_
    show Steps p.tables e below (T141.setTop (mkF m 4 #[.val (.ref r0), .val (.long q1), .second, .val (.int p2)] [])) _
    refine XS.aloadN X141.here hx rfl (hb hby d18_4) rfl rfl ?_
    show Steps p.tables e below (T141.setTop (mkF m 5 #[.val (.ref r0), .val (.long q1), .second, .val (.int p2)] [(.ref r0)])) _
    refine XS.lloadN X141.here hx rfl (hb hby d18_5) rfl ?_
    show Steps p.tables e below (T141.setTop (mkF m 6 #[.val (.ref r0), .val (.long q1), .second, .val (.int p2)] [(.long q1), (.ref r0)])) _
    refine st142 _ ?_
    show Steps p.tables e below (T142.setTop (mkF m 9 #[.val (.ref r0), .val (.long q1), .second, .val (.int p2)] [])) _
    refine XS.aloadN X142.here hx rfl (hb hby d18_9) rfl rfl ?_
    show Steps p.tables e below (T142.setTop (mkF m 10 #[.val (.ref r0), .val (.long q1), .second, .val (.int p2)] [(.ref r0)])) _
    refine XS.iloadN X142.here hx rfl (hb hby d18_10) rfl ?_
    show Steps p.tables e below (T142.setTop (mkF m 11 #[.val (.ref r0), .val (.long q1), .second, .val (.int p2)] [(.int p2), (.ref r0)])) _
    refine st148 _ ?_
    show Steps p.tables e below (T148.setTop (mkF m 14 #[.val (.ref r0), .val (.long q1), .second, .val (.int p2)] [])) _
    exact X148.returnOut hx Bd.returns (hb hby d18_14) hrT
  · show Q18 Z r0 q1 p2 h0 n0 _ T148.heap _
    rw [e148]
    have c152 : Fld Z h148 r0 "java/time/Duration" "seconds" "J" (.long q1) := (c144.other W148 (Or.inr (slot_ne (Or.inr (hw _ (List.mem_of_getElem? (i := 111) rfl))) (Or.inr (hw _ (List.mem_of_getElem? (i := 113) rfl))) (by decide) (t := .long) (t' := .int) (by decide) (by decide))))
    exact ⟨rfl, N151, K149, c152, c150⟩
theorem d17_0 : decode jdk_2316_method_16_code 0 = .ok (.lload_n 0, 1) := by decide +kernel
theorem d17_1 : decode jdk_2316_method_16_code 1 = .ok (.iload_n 2, 1) := by decide +kernel
theorem d17_2 : decode jdk_2316_method_16_code 2 = .ok (.i2l, 1) := by decide +kernel
theorem d17_3 : decode jdk_2316_method_16_code 3 = .ok (.lor, 1) := by decide +kernel
theorem d17_4 : decode jdk_2316_method_16_code 4 = .ok (.lconst 0, 1) := by decide +kernel
theorem d17_5 : decode jdk_2316_method_16_code 5 = .ok (.lcmp, 1) := by decide +kernel
theorem d17_6 : decode jdk_2316_method_16_code 6 = .ok (.ifCond .ne 7, 3) := by decide +kernel
theorem d17_13 : decode jdk_2316_method_16_code 13 = .ok (.new 11, 3) := by decide +kernel
theorem d17_16 : decode jdk_2316_method_16_code 16 = .ok (.dup, 1) := by decide +kernel
theorem d17_17 : decode jdk_2316_method_16_code 17 = .ok (.lload_n 0, 1) := by decide +kernel
theorem d17_18 : decode jdk_2316_method_16_code 18 = .ok (.iload_n 2, 1) := by decide +kernel
theorem pd__JI_V : parseMethodDescriptor "(JI)V" = some ⟨[.long, .int], none⟩ := by decide +kernel
theorem d17_19 : decode jdk_2316_method_16_code 19 = .ok (.invokespecial 215, 3) := by decide +kernel
theorem d17_22 : decode jdk_2316_method_16_code 22 = .ok (.areturn, 1) := by decide +kernel
theorem ef17 (m : MethodId) (x0 : Int64) (x1 : Int32) : entryFrame m #[(.long x0), (.int x1)] 3 = mkF m 0 #[.val (.long x0), .second, .val (.int x1)] [] := by first | (simp [entryFrame, mkF, argsToLocals, Value.category]; done) | rfl
def Q17 (Z : State) (q0 : Int64) (p1 : Int32) (h0 : Heap) (n0 : Nat) (v : Option Value) (h : Heap) (L : List Loc) : Prop := ∃ bb : Addr, v = some (.ref bb) ∧ Fr n0 L ∧ Keep h0 h [] ∧ h0.size ≤ bb ∧ Exa Z h bb "java/time/Duration" ∧ Fld Z h bb "java/time/Duration" "seconds" "J" (.long q0) ∧ Fld Z h bb "java/time/Duration" "nanos" "I" (.int p1)
set_option maxRecDepth 65536 in
set_option maxHeartbeats 40000000 in
theorem rm17 (l : Launch) (Z : State) (a0 : Array Value) (hw : ∀ d ∈ tables_1, d.before a0 Z = true) (ws : List Jvm.Cond) (q0 : Int64) (p1 : Int32) (h0 : Heap) (n0 : Nat) (Z0 : n0 ≤ h0.size) (hn : ¬ (q0 ||| (p1.toInt64)) = (0 : Int64)) :
    MetFree l (⟨"java/time/Duration", "create", "(JI)Ljava/time/Duration;"⟩ : MethodName) (head1 (Jvm.Cond.code (⟨"java/time/Duration", "create", "(JI)Ljava/time/Duration;"⟩ : MethodName) jdk_2316_method_16_code 3 (some (.object "java/time/Duration")) :: ws) ({ frames := 2, cells := 1, slots := 2, locals := 28 } : Room)) (fun a U => a = #[(.long q0), (.int p1)] ∧ Z.Warmed39 U.vm ∧ U.heap = h0) (fun _ _ _ _ _ => True) (fun _ U o U' => ∃ v L, o = .returned v ∧ Q17 Z q0 p1 h0 n0 v U'.heap L ∧ FrameEnd U o U' L ({ frames := 2, cells := 1, slots := 2, locals := 28 } : Room).cells ({ frames := 2, cells := 1, slots := 2, locals := 28 } : Room).slots) := by
  refine MetFree.of_bodySF (plainFor_of_name pn_Duration) hisR ?_
  intro p e s m args below meth c s₁ Bd hml0 hP hK
  obtain ⟨rfl, hZ, hh⟩ := hP
  have hx := Bd.exec
  have hby := Bd.bytes
  have hml : c.maxLocals = 3 := hml0
  have hown : s.vm.findClass "java/time/Duration" = some m.cls := findClass_of_methodNamed Bd.named
  have hnm := (name_of_methodNamed Bd.named Bd.method).1
  have X0 : Stand p l e ({ frames := 2, cells := 1, slots := 2, locals := 28 } : Room) s m #[(.long q0), (.int p1)] below meth c s₁ [] 0 0 := Stand.of_body Bd
  have e0 : s₁.heap = h0 := by rw [← hh, Bd.state]; rfl
  have N0 := Fr.nil n0
  have pre0 : ∀ t, Steps p.tables e below (s₁.setTop (mkF m 0 #[.val (.long q0), .second, .val (.int p1)] [])) t → Steps p.tables e below (s₁.setTop (entryFrame m #[(.long q0), (.int p1)] 3)) t := fun t k => castTop (ef17 m q0 p1) k
  obtain ⟨T153, h153, X153, e153, E153, A153, D153, -, st153⟩ := newO X0 hx hZ hown (hw _ (List.mem_of_getElem? (i := 103) rfl)) (hw _ (List.mem_of_getElem? (i := 104) rfl)) (hw _ (List.mem_of_getElem? (i := 64) rfl)) e0 (g := (mkF m 13 #[.val (.long q0), .second, .val (.int p1)] [])) rfl (hb hby d17_13) (by decide) (by decide)
  obtain ⟨b153, g153⟩ : ∃ z, z = h0.size := ⟨_, rfl⟩
  rw [← g153] at A153 D153 st153
  have ge_b153 : n0 ≤ b153 := Nat.le_trans Z0 (Nat.le_of_eq g153.symm)
  have sz_b153 : h0.size ≤ b153 := Nat.le_of_eq g153.symm
  have K154 : Keep h0 h153 [] := (Keep.refl h0 []).ext E153
  have F155 : Fld Z h153 b153 "java/time/Duration" "seconds" "J" (.long (0 : Int64)) := D153 (Or.inr (hw _ (List.mem_of_getElem? (i := 111) rfl))) (ty := .long) (by decide)
  have F156 : Fld Z h153 b153 "java/time/Duration" "nanos" "I" (.int (0 : Int32)) := D153 (Or.inr (hw _ (List.mem_of_getElem? (i := 113) rfl))) (ty := .int) (by decide)
  obtain ⟨_, _, ⟨T157, L157, k157, n157⟩, -, X157, ⟨Lc157, hQ157, l157, y157, z157⟩, st157⟩ := X153.specialBack hx (y := (⟨"java/time/Duration", "<init>", "(JI)V"⟩ : MethodName)) rfl hown (mvT hZ (hw _ (List.mem_of_getElem? (i := 105) rfl))) (mvT hZ (hw _ (List.mem_of_getElem? (i := 106) rfl))) (mvT hZ (hw _ (List.mem_of_getElem? (i := 108) rfl))) (by decide) (backOf (W := 1) (rm18 l Z a0 hw [] b153 q0 p1 h153 n0 (Nat.le_trans Z0 K154.1) F155 F156 A153 ge_b153) hZ (hw _ (List.mem_of_getElem? (i := 108) rfl)) (hw _ (List.mem_of_getElem? (i := 64) rfl)) (by decide) (by decide)) (g := (mkF m 19 #[.val (.long q0), .second, .val (.int p1)] [(.int p1), (.long q0), (.ref b153), (.ref b153)])) rfl (by rw [hml]; rfl) (Steps.refl _) (a := b153) (argsL := [(.long q0), (.int p1)]) (rest := [(.ref b153)]) (lenOf pd__JI_V rfl) rfl (by show 2 * 0 + _ ≤ _; exact Nat.le_of_eq rfl) (hb hby d17_19) (fun _ _ => ⟨rfl, e153, (by decide : 1 + 0 ≤ _), (by decide : 2 + 0 ≤ _)⟩)
  dsimp only [Pt.U, Pt.locs, Pt.cells, Pt.slots] at X157 l157 y157 z157 st157 hQ157
  subst l157 y157 z157
  obtain ⟨rfl, Nq157, Kq157, f157_0, f157_1⟩ := hQ157
  have K158 : Keep h0 T157.heap [] := K154.trans Kq157 (fun x hx => by cases List.mem_singleton.mp hx; exact Or.inr sz_b153)
  have N157 := Fr.app N0 Nq157
  obtain ⟨fs, hrT, hrunT, hendT, hWT, hsameT⟩ := X157.leave (hlocks := BodyLoose.notSynchronized Bd) (v := some (.ref b153)) (fun h => by rw [Bd.returns] at h; cases h)
  refine ⟨_, _, pre0 _ ?_, hrunT, hendT, _, _, rfl, ?_, ⟨_, rfl⟩, hWT, hsameT.mono (by decide) (by decide)⟩
  · show Steps p.tables e below (s₁.setTop (mkF m 0 #[.val (.long q0), .second, .val (.int p1)] [])) _
    refine XS.lloadN X0.here hx rfl (hb hby d17_0) rfl ?_
    show Steps p.tables e below (s₁.setTop (mkF m 1 #[.val (.long q0), .second, .val (.int p1)] [(.long q0)])) _
    refine XS.iloadN X0.here hx rfl (hb hby d17_1) rfl ?_
    show Steps p.tables e below (s₁.setTop (mkF m 2 #[.val (.long q0), .second, .val (.int p1)] [(.int p1), (.long q0)])) _
    refine XS.i2l X0.here hx rfl (hb hby d17_2) rfl ?_
    show Steps p.tables e below (s₁.setTop (mkF m 3 #[.val (.long q0), .second, .val (.int p1)] [(.long (p1.toInt64)), (.long q0)])) _
    refine XS.lor X0.here hx rfl (hb hby d17_3) rfl ?_
    show Steps p.tables e below (s₁.setTop (mkF m 4 #[.val (.long q0), .second, .val (.int p1)] [(.long (q0 ||| (p1.toInt64)))])) _
    refine XS.lconst X0.here hx rfl (hb hby d17_4) ?_
    show Steps p.tables e below (s₁.setTop (mkF m 5 #[.val (.long q0), .second, .val (.int p1)] [(.long (0 : Int64)), (.long (q0 ||| (p1.toInt64)))])) _
    refine XT.lcmp X0.here hx rfl (hb hby d17_5) rfl ?_
    show Steps p.tables e below (s₁.setTop (mkF m 6 #[.val (.long q0), .second, .val (.int p1)] [(.int (XT.cmpL (q0 ||| (p1.toInt64)) (0 : Int64)))])) _
    refine XS.ifYes X0.here hx rfl (pc0 := 6) (pc' := 13) rfl (hb hby d17_6) rfl (XT.ll_ne_t hn) (by decide) (by decide) ?_
    show Steps p.tables e below (s₁.setTop (mkF m 13 #[.val (.long q0), .second, .val (.int p1)] [])) _
    refine st153 _ ?_
    show Steps p.tables e below (T153.setTop (mkF m 16 #[.val (.long q0), .second, .val (.int p1)] [(.ref b153)])) _
    refine XS.dup X153.here hx rfl (hb hby d17_16) rfl rfl ?_
    show Steps p.tables e below (T153.setTop (mkF m 17 #[.val (.long q0), .second, .val (.int p1)] [(.ref b153), (.ref b153)])) _
    refine XS.lloadN X153.here hx rfl (hb hby d17_17) rfl ?_
    show Steps p.tables e below (T153.setTop (mkF m 18 #[.val (.long q0), .second, .val (.int p1)] [(.long q0), (.ref b153), (.ref b153)])) _
    refine XS.iloadN X153.here hx rfl (hb hby d17_18) rfl ?_
    show Steps p.tables e below (T153.setTop (mkF m 19 #[.val (.long q0), .second, .val (.int p1)] [(.int p1), (.long q0), (.ref b153), (.ref b153)])) _
    refine st157.trans ?_
    show Steps p.tables e below (T157.setTop (mkF m 22 #[.val (.long q0), .second, .val (.int p1)] [(.ref b153)])) _
    exact retOut X157 hx Bd.returns rfl (by right; right; right; right; exact ⟨rfl, rfl, rfl⟩) (hb hby d17_22) hrT
  · show Q17 Z q0 p1 h0 n0 _ T157.heap _
    have c159 : Exa Z T157.heap b153 "java/time/Duration" := (A153.keep Kq157)
    exact ⟨b153, rfl, N157, K158, sz_b153, c159, f157_0, f157_1⟩
def f_s (m : Int64) : Int64 := (m / (1000 : Int64))
def f_n (m : Int64) : Int32 := (((m - (m / (1000 : Int64)) * (1000 : Int64)).toInt32) * (1000000 : Int32))
theorem own_ms {m : Int64} (h : 1 ≤ m.toInt) : (m / (1000 : Int64)).toInt = m.toInt / 1000 ∧ ((m - (m / (1000 : Int64)) * (1000 : Int64)).toInt32).toInt = m.toInt % 1000 ∧ (f_n m).toInt = m.toInt % 1000 * 1000000 := by
  have k : (1000 : Int64).toInt = 1000 := rfl
  have b := m.toInt_lt
  have e1 : (m / (1000 : Int64)).toInt = m.toInt / 1000 := by rw [Jvm.Kit.i64_div (by rw [k]; omega), k, Int.tdiv_eq_ediv_of_nonneg (by omega)]
  have e2 : (m - (m / (1000 : Int64)) * (1000 : Int64)).toInt = m.toInt % 1000 := by rw [Jvm.Kit.i64_rem_nonneg (by omega), k]
  have e3 : ((m - (m / (1000 : Int64)) * (1000 : Int64)).toInt32).toInt = m.toInt % 1000 := by rw [Jvm.Kit.i32_of_i64 (by rw [e2]; omega) (by rw [e2]; omega), e2]
  have q : (1000000 : Int32).toInt = 1000000 := rfl
  refine ⟨e1, e3, ?_⟩
  unfold f_n
  rw [Jvm.Kit.i32_mul (by rw [e3, q]; omega) (by rw [e3, q]; omega), e3, q]
theorem own_neg {m : Int64} (h : 1 ≤ m.toInt) : ¬ ((m - (m / (1000 : Int64)) * (1000 : Int64)).toInt32) < 0 := by
  rw [XT.negI32, (own_ms h).2.1]; omega
theorem own_or0 {a b : Int64} (h : (a ||| b) = 0) : a = 0 ∧ b = 0 := by
  have e : (a.toBitVec ||| b.toBitVec) = 0#64 := congrArg Int64.toBitVec h
  have := BitVec.or_eq_zero_iff.mp e
  exact ⟨Int64.toBitVec_inj.mp this.1, Int64.toBitVec_inj.mp this.2⟩
theorem own_cr {m : Int64} (h : 1 ≤ m.toInt) : ¬ ((f_s m) ||| ((f_n m).toInt64)) = (0 : Int64) := fun e => by
  obtain ⟨h1, h2⟩ := own_or0 e
  have a1 := congrArg Int64.toInt h1
  have a2 := congrArg Int64.toInt h2
  rw [show (0 : Int64).toInt = 0 from rfl] at a1 a2
  unfold f_s at a1
  rw [(own_ms h).1] at a1
  rw [Jvm.Kit.i64_of_i32, (own_ms h).2.2] at a2
  omega
theorem d16_0 : decode jdk_2316_method_6_code 0 = .ok (.lload_n 0, 1) := by decide +kernel
theorem d16_1 : decode jdk_2316_method_6_code 1 = .ok (.ldc2_w 28, 3) := by decide +kernel
theorem d16_4 : decode jdk_2316_method_6_code 4 = .ok (.ldiv, 1) := by decide +kernel
theorem d16_5 : decode jdk_2316_method_6_code 5 = .ok (.lstore_n 2, 1) := by decide +kernel
theorem d16_6 : decode jdk_2316_method_6_code 6 = .ok (.lload_n 0, 1) := by decide +kernel
theorem d16_7 : decode jdk_2316_method_6_code 7 = .ok (.ldc2_w 28, 3) := by decide +kernel
theorem d16_10 : decode jdk_2316_method_6_code 10 = .ok (.lrem, 1) := by decide +kernel
theorem d16_11 : decode jdk_2316_method_6_code 11 = .ok (.l2i, 1) := by decide +kernel
theorem d16_12 : decode jdk_2316_method_6_code 12 = .ok (.istore 4, 2) := by decide +kernel
theorem d16_14 : decode jdk_2316_method_6_code 14 = .ok (.iload 4, 2) := by decide +kernel
theorem d16_16 : decode jdk_2316_method_6_code 16 = .ok (.ifCond .ge 13, 3) := by decide +kernel
theorem d16_29 : decode jdk_2316_method_6_code 29 = .ok (.lload_n 2, 1) := by decide +kernel
theorem d16_30 : decode jdk_2316_method_6_code 30 = .ok (.iload 4, 2) := by decide +kernel
theorem d16_32 : decode jdk_2316_method_6_code 32 = .ok (.ldc 30, 2) := by decide +kernel
theorem d16_34 : decode jdk_2316_method_6_code 34 = .ok (.imul, 1) := by decide +kernel
theorem pd__JI_Ljava_time_Duration_ : parseMethodDescriptor "(JI)Ljava/time/Duration;" = some ⟨[.long, .int], some (.object "java/time/Duration")⟩ := by decide +kernel
theorem d16_35 : decode jdk_2316_method_6_code 35 = .ok (.invokestatic 10, 3) := by decide +kernel
theorem d16_38 : decode jdk_2316_method_6_code 38 = .ok (.areturn, 1) := by decide +kernel
theorem ef16 (m : MethodId) (x0 : Int64) : entryFrame m #[(.long x0)] 5 = mkF m 0 #[.val (.long x0), .second, .unset, .unset, .unset] [] := by first | (simp [entryFrame, mkF, argsToLocals, Value.category]; done) | rfl
def Q16 (Z : State) (q0 : Int64) (h0 : Heap) (n0 : Nat) (v : Option Value) (h : Heap) (L : List Loc) : Prop := ∃ bb : Addr, v = some (.ref bb) ∧ Fr n0 L ∧ Keep h0 h [] ∧ h0.size ≤ bb ∧ Exa Z h bb "java/time/Duration" ∧ Fld Z h bb "java/time/Duration" "seconds" "J" (.long (f_s q0)) ∧ Fld Z h bb "java/time/Duration" "nanos" "I" (.int (f_n q0))
set_option maxRecDepth 65536 in
set_option maxHeartbeats 40000000 in
theorem rm16 (l : Launch) (Z : State) (a0 : Array Value) (hw : ∀ d ∈ tables_1, d.before a0 Z = true) (ws : List Jvm.Cond) (q0 : Int64) (h0 : Heap) (n0 : Nat) (Z0 : n0 ≤ h0.size) (hm : 1 ≤ q0.toInt) :
    MetFree l (⟨"java/time/Duration", "ofMillis", "(J)Ljava/time/Duration;"⟩ : MethodName) (head1 (Jvm.Cond.code (⟨"java/time/Duration", "ofMillis", "(J)Ljava/time/Duration;"⟩ : MethodName) jdk_2316_method_6_code 5 (some (.object "java/time/Duration")) :: ws) ({ frames := 3, cells := 1, slots := 2, locals := 42 } : Room)) (fun a U => a = #[(.long q0)] ∧ Z.Warmed39 U.vm ∧ U.heap = h0) (fun _ _ _ _ _ => True) (fun _ U o U' => ∃ v L, o = .returned v ∧ Q16 Z q0 h0 n0 v U'.heap L ∧ FrameEnd U o U' L ({ frames := 3, cells := 1, slots := 2, locals := 42 } : Room).cells ({ frames := 3, cells := 1, slots := 2, locals := 42 } : Room).slots) := by
  refine MetFree.of_bodySF (plainFor_of_name pn_Duration) hisR ?_
  intro p e s m args below meth c s₁ Bd hml0 hP hK
  obtain ⟨rfl, hZ, hh⟩ := hP
  have hx := Bd.exec
  have hby := Bd.bytes
  have hml : c.maxLocals = 5 := hml0
  have hown : s.vm.findClass "java/time/Duration" = some m.cls := findClass_of_methodNamed Bd.named
  have hnm := (name_of_methodNamed Bd.named Bd.method).1
  have X0 : Stand p l e ({ frames := 3, cells := 1, slots := 2, locals := 42 } : Room) s m #[(.long q0)] below meth c s₁ [] 0 0 := Stand.of_body Bd
  have e0 : s₁.heap = h0 := by rw [← hh, Bd.state]; rfl
  have N0 := Fr.nil n0
  have pre0 : ∀ t, Steps p.tables e below (s₁.setTop (mkF m 0 #[.val (.long q0), .second, .unset, .unset, .unset] [])) t → Steps p.tables e below (s₁.setTop (entryFrame m #[(.long q0)] 5)) t := fun t k => castTop (ef16 m q0) k
  obtain ⟨_, _, ⟨T160, L160, k160, n160⟩, -, X160, ⟨Lc160, hQ160, l160, y160, z160⟩, st160⟩ := Jvm.LawKit.callS X0 hx (y := (⟨"java/time/Duration", "create", "(JI)Ljava/time/Duration;"⟩ : MethodName)) hown (mvT hZ (hw _ (List.mem_of_getElem? (i := 100) rfl))) (mvT hZ (hw _ (List.mem_of_getElem? (i := 101) rfl))) (mvT hZ (hw _ (List.mem_of_getElem? (i := 64) rfl))) (mvT hZ (hw _ (List.mem_of_getElem? (i := 102) rfl))) (by decide) (backOf (W := 0) (rm17 l Z a0 hw [] (f_s q0) (f_n q0) h0 n0 Z0 (own_cr hm)) hZ (hw _ (List.mem_of_getElem? (i := 102) rfl)) (hw _ (List.mem_of_getElem? (i := 64) rfl)) (by decide) (by decide)) (g := (mkF m 35 #[.val (.long q0), .second, .val (.long (q0 / (1000 : Int64))), .second, .val (.int ((q0 - (q0 / (1000 : Int64)) * (1000 : Int64)).toInt32))] [(.int (f_n q0)), (.long (f_s q0))])) rfl (by rw [hml]; rfl) (argsL := [(.long (f_s q0)), (.int (f_n q0))]) (rest := []) (lenOf pd__JI_Ljava_time_Duration_ rfl) rfl (by show 2 * 0 + _ ≤ _; exact Nat.le_of_eq rfl) (hb hby d16_35) (fun _ _ => ⟨rfl, e0, (by decide : 0 + 1 ≤ _), (by decide : 0 + 2 ≤ _)⟩)
  dsimp only [Pt.U, Pt.locs, Pt.cells, Pt.slots] at X160 l160 y160 z160 st160 hQ160
  subst l160 y160 z160
  obtain ⟨bb_160, rfl, Nq160, Kq160, f160_0, f160_1, f160_2, f160_3⟩ := hQ160
  have K161 : Keep h0 T160.heap [] := Kq160
  have N160 := Fr.app N0 Nq160
  have ge_bb_160 : n0 ≤ bb_160 := Nat.le_trans Z0 f160_0
  have sz_bb_160 : h0.size ≤ bb_160 := Nat.le_trans (Nat.le_refl _) f160_0
  obtain ⟨fs, hrT, hrunT, hendT, hWT, hsameT⟩ := X160.leave (hlocks := BodyLoose.notSynchronized Bd) (v := some (.ref bb_160)) (fun h => by rw [Bd.returns] at h; cases h)
  refine ⟨_, _, pre0 _ ?_, hrunT, hendT, _, _, rfl, ?_, ⟨_, rfl⟩, hWT, hsameT.mono (by decide) (by decide)⟩
  · show Steps p.tables e below (s₁.setTop (mkF m 0 #[.val (.long q0), .second, .unset, .unset, .unset] [])) _
    refine XS.lloadN X0.here hx rfl (hb hby d16_0) rfl ?_
    show Steps p.tables e below (s₁.setTop (mkF m 1 #[.val (.long q0), .second, .unset, .unset, .unset] [(.long q0)])) _
    refine X0.ldc2Long hx hown (mvT hZ (hw _ (List.mem_of_getElem? (i := 98) rfl))) (g := (mkF m 1 #[.val (.long q0), .second, .unset, .unset, .unset] [(.long q0)])) rfl (hb hby d16_1) _ ?_
    show Steps p.tables e below (s₁.setTop (mkF m 4 #[.val (.long q0), .second, .unset, .unset, .unset] [(.long (1000 : Int64)), (.long q0)])) _
    refine XS.ldiv X0.here hx rfl (hb hby d16_4) rfl (by decide) ?_
    show Steps p.tables e below (s₁.setTop (mkF m 5 #[.val (.long q0), .second, .unset, .unset, .unset] [(.long (q0 / (1000 : Int64)))])) _
    refine XS.lstoreN X0.here hx rfl (hb hby d16_5) rfl (l' := #[.val (.long q0), .second, .val (.long (q0 / (1000 : Int64))), .second, .unset]) rfl ?_
    show Steps p.tables e below (s₁.setTop (mkF m 6 #[.val (.long q0), .second, .val (.long (q0 / (1000 : Int64))), .second, .unset] [])) _
    refine XS.lloadN X0.here hx rfl (hb hby d16_6) rfl ?_
    show Steps p.tables e below (s₁.setTop (mkF m 7 #[.val (.long q0), .second, .val (.long (q0 / (1000 : Int64))), .second, .unset] [(.long q0)])) _
    refine X0.ldc2Long hx hown (mvT hZ (hw _ (List.mem_of_getElem? (i := 98) rfl))) (g := (mkF m 7 #[.val (.long q0), .second, .val (.long (q0 / (1000 : Int64))), .second, .unset] [(.long q0)])) rfl (hb hby d16_7) _ ?_
    show Steps p.tables e below (s₁.setTop (mkF m 10 #[.val (.long q0), .second, .val (.long (q0 / (1000 : Int64))), .second, .unset] [(.long (1000 : Int64)), (.long q0)])) _
    refine XS.lrem X0.here hx rfl (hb hby d16_10) rfl (by decide) ?_
    show Steps p.tables e below (s₁.setTop (mkF m 11 #[.val (.long q0), .second, .val (.long (q0 / (1000 : Int64))), .second, .unset] [(.long (q0 - (q0 / (1000 : Int64)) * (1000 : Int64)))])) _
    refine XS.l2i X0.here hx rfl (hb hby d16_11) rfl ?_
    show Steps p.tables e below (s₁.setTop (mkF m 12 #[.val (.long q0), .second, .val (.long (q0 / (1000 : Int64))), .second, .unset] [(.int ((q0 - (q0 / (1000 : Int64)) * (1000 : Int64)).toInt32))])) _
    refine XS.istore X0.here hx rfl (hb hby d16_12) rfl (l' := #[.val (.long q0), .second, .val (.long (q0 / (1000 : Int64))), .second, .val (.int ((q0 - (q0 / (1000 : Int64)) * (1000 : Int64)).toInt32))]) rfl ?_
    show Steps p.tables e below (s₁.setTop (mkF m 14 #[.val (.long q0), .second, .val (.long (q0 / (1000 : Int64))), .second, .val (.int ((q0 - (q0 / (1000 : Int64)) * (1000 : Int64)).toInt32))] [])) _
    refine XS.iload X0.here hx rfl (hb hby d16_14) rfl ?_
    show Steps p.tables e below (s₁.setTop (mkF m 16 #[.val (.long q0), .second, .val (.long (q0 / (1000 : Int64))), .second, .val (.int ((q0 - (q0 / (1000 : Int64)) * (1000 : Int64)).toInt32))] [(.int ((q0 - (q0 / (1000 : Int64)) * (1000 : Int64)).toInt32))])) _
    refine XS.ifYes X0.here hx rfl (pc0 := 16) (pc' := 29) rfl (hb hby d16_16) rfl (XT.i0_ge_t (own_neg hm)) (by decide) (by decide) ?_
    show Steps p.tables e below (s₁.setTop (mkF m 29 #[.val (.long q0), .second, .val (.long (q0 / (1000 : Int64))), .second, .val (.int ((q0 - (q0 / (1000 : Int64)) * (1000 : Int64)).toInt32))] [])) _
    refine XS.lloadN X0.here hx rfl (hb hby d16_29) rfl ?_
    show Steps p.tables e below (s₁.setTop (mkF m 30 #[.val (.long q0), .second, .val (.long (q0 / (1000 : Int64))), .second, .val (.int ((q0 - (q0 / (1000 : Int64)) * (1000 : Int64)).toInt32))] [(.long (q0 / (1000 : Int64)))])) _
    refine XS.iload X0.here hx rfl (hb hby d16_30) rfl ?_
    show Steps p.tables e below (s₁.setTop (mkF m 32 #[.val (.long q0), .second, .val (.long (q0 / (1000 : Int64))), .second, .val (.int ((q0 - (q0 / (1000 : Int64)) * (1000 : Int64)).toInt32))] [(.int ((q0 - (q0 / (1000 : Int64)) * (1000 : Int64)).toInt32)), (.long (q0 / (1000 : Int64)))])) _
    refine X0.ldcInt hx hown (mvT hZ (hw _ (List.mem_of_getElem? (i := 99) rfl))) (g := (mkF m 32 #[.val (.long q0), .second, .val (.long (q0 / (1000 : Int64))), .second, .val (.int ((q0 - (q0 / (1000 : Int64)) * (1000 : Int64)).toInt32))] [(.int ((q0 - (q0 / (1000 : Int64)) * (1000 : Int64)).toInt32)), (.long (q0 / (1000 : Int64)))])) rfl (hb hby d16_32) _ ?_
    show Steps p.tables e below (s₁.setTop (mkF m 34 #[.val (.long q0), .second, .val (.long (q0 / (1000 : Int64))), .second, .val (.int ((q0 - (q0 / (1000 : Int64)) * (1000 : Int64)).toInt32))] [(.int (1000000 : Int32)), (.int ((q0 - (q0 / (1000 : Int64)) * (1000 : Int64)).toInt32)), (.long (q0 / (1000 : Int64)))])) _
    refine XS.imul X0.here hx rfl (hb hby d16_34) rfl ?_
    show Steps p.tables e below (s₁.setTop (mkF m 35 #[.val (.long q0), .second, .val (.long (q0 / (1000 : Int64))), .second, .val (.int ((q0 - (q0 / (1000 : Int64)) * (1000 : Int64)).toInt32))] [(.int (f_n q0)), (.long (f_s q0))])) _
    refine st160 _ ?_
    show Steps p.tables e below (T160.setTop (mkF m 38 #[.val (.long q0), .second, .val (.long (q0 / (1000 : Int64))), .second, .val (.int ((q0 - (q0 / (1000 : Int64)) * (1000 : Int64)).toInt32))] [(.ref bb_160)])) _
    exact retOut X160 hx Bd.returns rfl (by right; right; right; right; exact ⟨rfl, rfl, rfl⟩) (hb hby d16_38) hrT
  · show Q16 Z q0 h0 n0 _ T160.heap _
    exact ⟨bb_160, rfl, N160, K161, sz_bb_160, f160_1, f160_2, f160_3⟩
theorem d21_0 : decode jdk_31_method_11_code 0 = .ok (.aload_n 0, 1) := by decide +kernel
theorem d21_1 : decode jdk_31_method_11_code 1 = .ok (.ifnonnull 12, 3) := by decide +kernel
theorem d21_13 : decode jdk_31_method_11_code 13 = .ok (.aload_n 0, 1) := by decide +kernel
theorem d21_14 : decode jdk_31_method_11_code 14 = .ok (.areturn, 1) := by decide +kernel
theorem pn_Objects : plainName "java/util/Objects" = true := by first | (simp [plainName, overriddenIn]; done) | decide +kernel
theorem ef21 (m : MethodId) (x0 : Addr) (x1 : Addr) : entryFrame m #[(.ref x0), (.ref x1)] 2 = mkF m 0 #[.val (.ref x0), .val (.ref x1)] [] := by first | (simp [entryFrame, mkF, argsToLocals, Value.category]; done) | rfl
def Q21 (Z : State) (r0 : Addr) (r1 : Addr) (h0 : Heap) (n0 : Nat) (v : Option Value) (h : Heap) (L : List Loc) : Prop := v = some (.ref r0) ∧ Fr n0 L ∧ h = h0
set_option maxRecDepth 65536 in
set_option maxHeartbeats 40000000 in
theorem rm21 (l : Launch) (Z : State) (a0 : Array Value) (hw : ∀ d ∈ tables_1, d.before a0 Z = true) (ws : List Jvm.Cond) (r0 : Addr) (r1 : Addr) (h0 : Heap) (n0 : Nat) (Z0 : n0 ≤ h0.size) :
    MetFree l (⟨"java/util/Objects", "requireNonNull", "(Ljava/lang/Object;Ljava/lang/String;)Ljava/lang/Object;"⟩ : MethodName) (head1 (Jvm.Cond.code (⟨"java/util/Objects", "requireNonNull", "(Ljava/lang/Object;Ljava/lang/String;)Ljava/lang/Object;"⟩ : MethodName) jdk_31_method_11_code 2 (some (.object "java/lang/Object")) :: ws) ({ frames := 0, cells := 0, slots := 0, locals := 0 } : Room)) (fun a U => a = #[(.ref r0), (.ref r1)] ∧ Z.Warmed39 U.vm ∧ U.heap = h0) (fun _ _ _ _ _ => True) (fun _ U o U' => ∃ v L, o = .returned v ∧ Q21 Z r0 r1 h0 n0 v U'.heap L ∧ FrameEnd U o U' L ({ frames := 0, cells := 0, slots := 0, locals := 0 } : Room).cells ({ frames := 0, cells := 0, slots := 0, locals := 0 } : Room).slots) := by
  refine MetFree.of_bodySF (plainFor_of_name pn_Objects) hisR ?_
  intro p e s m args below meth c s₁ Bd hml0 hP hK
  obtain ⟨rfl, hZ, hh⟩ := hP
  have hx := Bd.exec
  have hby := Bd.bytes
  have hml : c.maxLocals = 2 := hml0
  have hown : s.vm.findClass "java/util/Objects" = some m.cls := findClass_of_methodNamed Bd.named
  have hnm := (name_of_methodNamed Bd.named Bd.method).1
  have X0 : Stand p l e ({ frames := 0, cells := 0, slots := 0, locals := 0 } : Room) s m #[(.ref r0), (.ref r1)] below meth c s₁ [] 0 0 := Stand.of_body Bd
  have e0 : s₁.heap = h0 := by rw [← hh, Bd.state]; rfl
  have N0 := Fr.nil n0
  have pre0 : ∀ t, Steps p.tables e below (s₁.setTop (mkF m 0 #[.val (.ref r0), .val (.ref r1)] [])) t → Steps p.tables e below (s₁.setTop (entryFrame m #[(.ref r0), (.ref r1)] 2)) t := fun t k => castTop (ef21 m r0 r1) k
  obtain ⟨fs, hrT, hrunT, hendT, hWT, hsameT⟩ := X0.leave (hlocks := BodyLoose.notSynchronized Bd) (v := some (.ref r0)) (fun h => by rw [Bd.returns] at h; cases h)
  refine ⟨_, _, pre0 _ ?_, hrunT, hendT, _, _, rfl, ?_, ⟨_, rfl⟩, hWT, hsameT.mono (by decide) (by decide)⟩
  · show Steps p.tables e below (s₁.setTop (mkF m 0 #[.val (.ref r0), .val (.ref r1)] [])) _
    refine XS.aloadN X0.here hx rfl (hb hby d21_0) rfl rfl ?_
    show Steps p.tables e below (s₁.setTop (mkF m 1 #[.val (.ref r0), .val (.ref r1)] [(.ref r0)])) _
    refine XS.ifnonnullYes X0.here hx rfl (pc0 := 1) (pc' := 13) rfl (hb hby d21_1) rfl (by decide) (by decide) ?_
    show Steps p.tables e below (s₁.setTop (mkF m 13 #[.val (.ref r0), .val (.ref r1)] [])) _
    refine XS.aloadN X0.here hx rfl (hb hby d21_13) rfl rfl ?_
    show Steps p.tables e below (s₁.setTop (mkF m 14 #[.val (.ref r0), .val (.ref r1)] [(.ref r0)])) _
    exact retOut X0 hx Bd.returns rfl (by right; right; right; right; exact ⟨rfl, rfl, rfl⟩) (hb hby d21_14) hrT
  · show Q21 Z r0 r1 h0 n0 _ s₁.heap _
    rw [e0]
    exact ⟨rfl, N0, rfl⟩
theorem d22_0 : decode jdk_2316_method_66_code 0 = .ok (.aload_n 0, 1) := by decide +kernel
theorem d22_1 : decode jdk_2316_method_66_code 1 = .ok (.getfield 221, 3) := by decide +kernel
theorem d22_4 : decode jdk_2316_method_66_code 4 = .ok (.aload_n 1, 1) := by decide +kernel
theorem d22_5 : decode jdk_2316_method_66_code 5 = .ok (.getfield 221, 3) := by decide +kernel
theorem d22_8 : decode jdk_2316_method_66_code 8 = .ok (.invokestatic 416, 3) := by decide +kernel
theorem d22_11 : decode jdk_2316_method_66_code 11 = .ok (.istore_n 2, 1) := by decide +kernel
theorem d22_12 : decode jdk_2316_method_66_code 12 = .ok (.iload_n 2, 1) := by decide +kernel
theorem d22_13 : decode jdk_2316_method_66_code 13 = .ok (.ifCond .eq 5, 3) := by decide +kernel
theorem d22_18 : decode jdk_2316_method_66_code 18 = .ok (.aload_n 0, 1) := by decide +kernel
theorem d22_19 : decode jdk_2316_method_66_code 19 = .ok (.getfield 224, 3) := by decide +kernel
theorem d22_22 : decode jdk_2316_method_66_code 22 = .ok (.aload_n 1, 1) := by decide +kernel
theorem d22_23 : decode jdk_2316_method_66_code 23 = .ok (.getfield 224, 3) := by decide +kernel
theorem d22_26 : decode jdk_2316_method_66_code 26 = .ok (.isub, 1) := by decide +kernel
theorem d22_27 : decode jdk_2316_method_66_code 27 = .ok (.ireturn, 1) := by decide +kernel
theorem d22_16 : decode jdk_2316_method_66_code 16 = .ok (.iload_n 2, 1) := by decide +kernel
theorem d22_17 : decode jdk_2316_method_66_code 17 = .ok (.ireturn, 1) := by decide +kernel
def f_ct (us : Int64) (un : Int32) (vs : Int64) (vn : Int32) : Int32 := (if (f_cmp us vs) = 0 then (un - vn) else (f_cmp us vs))
theorem ef22 (m : MethodId) (x0 : Addr) (x1 : Addr) : entryFrame m #[(.ref x0), (.ref x1)] 3 = mkF m 0 #[.val (.ref x0), .val (.ref x1), .unset] [] := by first | (simp [entryFrame, mkF, argsToLocals, Value.category]; done) | rfl
def Q22 (Z : State) (r0 : Addr) (r1 : Addr) (us : Int64) (un : Int32) (vs : Int64) (vn : Int32) (h0 : Heap) (n0 : Nat) (v : Option Value) (h : Heap) (L : List Loc) : Prop := v = some (.int (f_ct us un vs vn)) ∧ Fr n0 L ∧ h = h0
set_option maxRecDepth 65536 in
set_option maxHeartbeats 40000000 in
theorem rm22 (l : Launch) (Z : State) (a0 : Array Value) (hw : ∀ d ∈ tables_1, d.before a0 Z = true) (ws : List Jvm.Cond) (r0 : Addr) (r1 : Addr) (us : Int64) (un : Int32) (vs : Int64) (vn : Int32) (h0 : Heap) (n0 : Nat) (Z0 : n0 ≤ h0.size) (F0 : Fld Z h0 r0 "java/time/Duration" "seconds" "J" (.long us)) (F1 : Fld Z h0 r0 "java/time/Duration" "nanos" "I" (.int un)) (G0 : Fld Z h0 r1 "java/time/Duration" "seconds" "J" (.long vs)) (G1 : Fld Z h0 r1 "java/time/Duration" "nanos" "I" (.int vn)) :
    MetFree l (⟨"java/time/Duration", "compareTo", "(Ljava/time/Duration;)I"⟩ : MethodName) (head1 (Jvm.Cond.code (⟨"java/time/Duration", "compareTo", "(Ljava/time/Duration;)I"⟩ : MethodName) jdk_2316_method_66_code 3 (some .int) :: ws) ({ frames := 1, cells := 0, slots := 0, locals := 15 } : Room)) (fun a U => a = #[(.ref r0), (.ref r1)] ∧ Z.Warmed39 U.vm ∧ U.heap = h0) (fun _ _ _ _ _ => True) (fun _ U o U' => ∃ v L, o = .returned v ∧ Q22 Z r0 r1 us un vs vn h0 n0 v U'.heap L ∧ FrameEnd U o U' L ({ frames := 1, cells := 0, slots := 0, locals := 15 } : Room).cells ({ frames := 1, cells := 0, slots := 0, locals := 15 } : Room).slots) := by
  refine MetFree.of_bodySF (plainFor_of_name pn_Duration) hisR ?_
  intro p e s m args below meth c s₁ Bd hml0 hP hK
  obtain ⟨rfl, hZ, hh⟩ := hP
  have hx := Bd.exec
  have hby := Bd.bytes
  have hml : c.maxLocals = 3 := hml0
  have hown : s.vm.findClass "java/time/Duration" = some m.cls := findClass_of_methodNamed Bd.named
  have hnm := (name_of_methodNamed Bd.named Bd.method).1
  have X0 : Stand p l e ({ frames := 1, cells := 0, slots := 0, locals := 15 } : Room) s m #[(.ref r0), (.ref r1)] below meth c s₁ [] 0 0 := Stand.of_body Bd
  have e0 : s₁.heap = h0 := by rw [← hh, Bd.state]; rfl
  have N0 := Fr.nil n0
  have pre0 : ∀ t, Steps p.tables e below (s₁.setTop (mkF m 0 #[.val (.ref r0), .val (.ref r1), .unset] [])) t → Steps p.tables e below (s₁.setTop (entryFrame m #[(.ref r0), (.ref r1)] 3)) t := fun t k => castTop (ef22 m r0 r1) k
  obtain ⟨T162, X162, e162, st162⟩ := getF X0 hx hZ hown (host := "") (Or.inl (hw _ (List.mem_of_getElem? (i := 110) rfl))) Via.refl e0 F0 (g := (mkF m 1 #[.val (.ref r0), .val (.ref r1), .unset] [(.ref r0)])) rfl rfl (hb hby d22_1)
  obtain ⟨T163, X163, e163, st163⟩ := getF X162 hx hZ hown (host := "") (Or.inl (hw _ (List.mem_of_getElem? (i := 110) rfl))) Via.refl e162 G0 (g := (mkF m 5 #[.val (.ref r0), .val (.ref r1), .unset] [(.ref r1), (.long us)])) rfl rfl (hb hby d22_5)
  obtain ⟨_, _, ⟨T164, L164, k164, n164⟩, -, X164, ⟨Lc164, hQ164, l164, y164, z164⟩, st164⟩ := Jvm.LawKit.callS X163 hx (y := (⟨"java/lang/Long", "compare", "(JJ)I"⟩ : MethodName)) hown (mvT hZ (hw _ (List.mem_of_getElem? (i := 139) rfl))) (mvT hZ (hw _ (List.mem_of_getElem? (i := 51) rfl))) (mvT hZ (hw _ (List.mem_of_getElem? (i := 47) rfl))) (mvT hZ (hw _ (List.mem_of_getElem? (i := 52) rfl))) (by decide) (backOf (W := 0) (rm8 l Z a0 hw [] us vs h0 n0 Z0 ) hZ (hw _ (List.mem_of_getElem? (i := 52) rfl)) (hw _ (List.mem_of_getElem? (i := 47) rfl)) (by decide) (by decide)) (g := (mkF m 8 #[.val (.ref r0), .val (.ref r1), .unset] [(.long vs), (.long us)])) rfl (by rw [hml]; rfl) (argsL := [(.long us), (.long vs)]) (rest := []) (lenOf pd__JJ_I rfl) rfl (by show 2 * 0 + _ ≤ _; exact Nat.le_of_eq rfl) (hb hby d22_8) (fun _ _ => ⟨rfl, e163, (by decide : 0 + 0 ≤ _), (by decide : 0 + 0 ≤ _)⟩)
  dsimp only [Pt.U, Pt.locs, Pt.cells, Pt.slots] at X164 l164 y164 z164 st164 hQ164
  subst l164 y164 z164
  obtain ⟨rfl, Nq164, e164⟩ := hQ164
  have N164 := Fr.app N0 Nq164
  have S165 : ∀ t, Steps p.tables e below (T164.setTop (mkF m 13 #[.val (.ref r0), .val (.ref r1), .val (.int (f_cmp us vs))] [(.int (f_cmp us vs))])) t → Steps p.tables e below (s₁.setTop (entryFrame m #[(.ref r0), (.ref r1)] 3)) t := by
    intro t kt
    refine pre0 _ ?_
    show Steps p.tables e below (s₁.setTop (mkF m 0 #[.val (.ref r0), .val (.ref r1), .unset] [])) _
    refine XS.aloadN X0.here hx rfl (hb hby d22_0) rfl rfl ?_
    show Steps p.tables e below (s₁.setTop (mkF m 1 #[.val (.ref r0), .val (.ref r1), .unset] [(.ref r0)])) _
    refine st162 _ ?_
    show Steps p.tables e below (T162.setTop (mkF m 4 #[.val (.ref r0), .val (.ref r1), .unset] [(.long us)])) _
    refine XS.aloadN X162.here hx rfl (hb hby d22_4) rfl rfl ?_
    show Steps p.tables e below (T162.setTop (mkF m 5 #[.val (.ref r0), .val (.ref r1), .unset] [(.ref r1), (.long us)])) _
    refine st163 _ ?_
    show Steps p.tables e below (T163.setTop (mkF m 8 #[.val (.ref r0), .val (.ref r1), .unset] [(.long vs), (.long us)])) _
    refine st164 _ ?_
    show Steps p.tables e below (T164.setTop (mkF m 11 #[.val (.ref r0), .val (.ref r1), .unset] [(.int (f_cmp us vs))])) _
    refine XS.istoreN X164.here hx rfl (hb hby d22_11) rfl (l' := #[.val (.ref r0), .val (.ref r1), .val (.int (f_cmp us vs))]) rfl ?_
    show Steps p.tables e below (T164.setTop (mkF m 12 #[.val (.ref r0), .val (.ref r1), .val (.int (f_cmp us vs))] [])) _
    refine XS.iloadN X164.here hx rfl (hb hby d22_12) rfl ?_
    exact kt
  by_cases hc13_166 : (f_cmp us vs) = 0
  case pos =>
    obtain ⟨T167, X167, e167, st167⟩ := getF X164 hx hZ hown (host := "") (Or.inl (hw _ (List.mem_of_getElem? (i := 112) rfl))) Via.refl e164 F1 (g := (mkF m 19 #[.val (.ref r0), .val (.ref r1), .val (.int (f_cmp us vs))] [(.ref r0)])) rfl rfl (hb hby d22_19)
    obtain ⟨T168, X168, e168, st168⟩ := getF X167 hx hZ hown (host := "") (Or.inl (hw _ (List.mem_of_getElem? (i := 112) rfl))) Via.refl e167 G1 (g := (mkF m 23 #[.val (.ref r0), .val (.ref r1), .val (.int (f_cmp us vs))] [(.ref r1), (.int un)])) rfl rfl (hb hby d22_23)
    obtain ⟨fs, hrT, hrunT, hendT, hWT, hsameT⟩ := X168.leave (hlocks := BodyLoose.notSynchronized Bd) (v := some (.int (un - vn))) (fun h => by rw [Bd.returns] at h; cases h)
    refine ⟨_, _, S165 _ ?_, hrunT, hendT, _, _, rfl, ?_, ⟨_, rfl⟩, hWT, hsameT.mono (by decide) (by decide)⟩
    · show Steps p.tables e below (T164.setTop (mkF m 13 #[.val (.ref r0), .val (.ref r1), .val (.int (f_cmp us vs))] [(.int (f_cmp us vs))])) _
      refine XS.ifYes X164.here hx rfl (pc0 := 13) (pc' := 18) rfl (hb hby d22_13) rfl (XT.i0_eq_t hc13_166) (by decide) (by decide) ?_
      show Steps p.tables e below (T164.setTop (mkF m 18 #[.val (.ref r0), .val (.ref r1), .val (.int (f_cmp us vs))] [])) _
      refine XS.aloadN X164.here hx rfl (hb hby d22_18) rfl rfl ?_
      show Steps p.tables e below (T164.setTop (mkF m 19 #[.val (.ref r0), .val (.ref r1), .val (.int (f_cmp us vs))] [(.ref r0)])) _
      refine st167 _ ?_
      show Steps p.tables e below (T167.setTop (mkF m 22 #[.val (.ref r0), .val (.ref r1), .val (.int (f_cmp us vs))] [(.int un)])) _
      refine XS.aloadN X167.here hx rfl (hb hby d22_22) rfl rfl ?_
      show Steps p.tables e below (T167.setTop (mkF m 23 #[.val (.ref r0), .val (.ref r1), .val (.int (f_cmp us vs))] [(.ref r1), (.int un)])) _
      refine st168 _ ?_
      show Steps p.tables e below (T168.setTop (mkF m 26 #[.val (.ref r0), .val (.ref r1), .val (.int (f_cmp us vs))] [(.int vn), (.int un)])) _
      refine XS.isub X168.here hx rfl (hb hby d22_26) rfl ?_
      show Steps p.tables e below (T168.setTop (mkF m 27 #[.val (.ref r0), .val (.ref r1), .val (.int (f_cmp us vs))] [(.int (un - vn))])) _
      exact retI X168 hx Bd.returns (hb hby d22_27) hrT
    · show Q22 Z r0 r1 us un vs vn h0 n0 _ T168.heap _
      rw [e168]
      have hv : f_ct us un vs vn = (un - vn) := by unfold f_ct; rw [if_pos hc13_166]
      exact ⟨(congrArg (fun z => some (Value.int z)) hv.symm), N164, rfl⟩
  case neg =>
    obtain ⟨fs, hrT, hrunT, hendT, hWT, hsameT⟩ := X164.leave (hlocks := BodyLoose.notSynchronized Bd) (v := some (.int (f_cmp us vs))) (fun h => by rw [Bd.returns] at h; cases h)
    refine ⟨_, _, S165 _ ?_, hrunT, hendT, _, _, rfl, ?_, ⟨_, rfl⟩, hWT, hsameT.mono (by decide) (by decide)⟩
    · show Steps p.tables e below (T164.setTop (mkF m 13 #[.val (.ref r0), .val (.ref r1), .val (.int (f_cmp us vs))] [(.int (f_cmp us vs))])) _
      refine XS.ifNo X164.here hx rfl (hb hby d22_13) rfl (XT.i0_eq_f hc13_166) ?_
      show Steps p.tables e below (T164.setTop (mkF m 16 #[.val (.ref r0), .val (.ref r1), .val (.int (f_cmp us vs))] [])) _
      refine XS.iloadN X164.here hx rfl (hb hby d22_16) rfl ?_
      show Steps p.tables e below (T164.setTop (mkF m 17 #[.val (.ref r0), .val (.ref r1), .val (.int (f_cmp us vs))] [(.int (f_cmp us vs))])) _
      exact retI X164 hx Bd.returns (hb hby d22_17) hrT
    · show Q22 Z r0 r1 us un vs vn h0 n0 _ T164.heap _
      rw [e164]
      have hv : f_ct us un vs vn = (f_cmp us vs) := by unfold f_ct; rw [if_neg hc13_166]
      exact ⟨(congrArg (fun z => some (Value.int z)) hv.symm), N164, rfl⟩
theorem d23_0 : decode jdk_2316_method_24_code 0 = .ok (.aload_n 0, 1) := by decide +kernel
theorem d23_1 : decode jdk_2316_method_24_code 1 = .ok (.getfield 224, 3) := by decide +kernel
theorem d23_4 : decode jdk_2316_method_24_code 4 = .ok (.ireturn, 1) := by decide +kernel
theorem ef23 (m : MethodId) (x0 : Addr) : entryFrame m #[(.ref x0)] 1 = mkF m 0 #[.val (.ref x0)] [] := by first | (simp [entryFrame, mkF, argsToLocals, Value.category]; done) | rfl
def Q23 (Z : State) (r0 : Addr) (un : Int32) (h0 : Heap) (n0 : Nat) (v : Option Value) (h : Heap) (L : List Loc) : Prop := v = some (.int un) ∧ Fr n0 L ∧ h = h0
set_option maxRecDepth 65536 in
set_option maxHeartbeats 40000000 in
theorem rm23 (l : Launch) (Z : State) (a0 : Array Value) (hw : ∀ d ∈ tables_1, d.before a0 Z = true) (ws : List Jvm.Cond) (r0 : Addr) (un : Int32) (h0 : Heap) (n0 : Nat) (Z0 : n0 ≤ h0.size) (F : Fld Z h0 r0 "java/time/Duration" "nanos" "I" (.int un)) :
    MetFree l (⟨"java/time/Duration", "getNano", "()I"⟩ : MethodName) (head1 (Jvm.Cond.code (⟨"java/time/Duration", "getNano", "()I"⟩ : MethodName) jdk_2316_method_24_code 1 (some .int) :: ws) ({ frames := 0, cells := 0, slots := 0, locals := 0 } : Room)) (fun a U => a = #[(.ref r0)] ∧ Z.Warmed39 U.vm ∧ U.heap = h0) (fun _ _ _ _ _ => True) (fun _ U o U' => ∃ v L, o = .returned v ∧ Q23 Z r0 un h0 n0 v U'.heap L ∧ FrameEnd U o U' L ({ frames := 0, cells := 0, slots := 0, locals := 0 } : Room).cells ({ frames := 0, cells := 0, slots := 0, locals := 0 } : Room).slots) := by
  refine MetFree.of_bodySF (plainFor_of_name pn_Duration) hisR ?_
  intro p e s m args below meth c s₁ Bd hml0 hP hK
  obtain ⟨rfl, hZ, hh⟩ := hP
  have hx := Bd.exec
  have hby := Bd.bytes
  have hml : c.maxLocals = 1 := hml0
  have hown : s.vm.findClass "java/time/Duration" = some m.cls := findClass_of_methodNamed Bd.named
  have hnm := (name_of_methodNamed Bd.named Bd.method).1
  have X0 : Stand p l e ({ frames := 0, cells := 0, slots := 0, locals := 0 } : Room) s m #[(.ref r0)] below meth c s₁ [] 0 0 := Stand.of_body Bd
  have e0 : s₁.heap = h0 := by rw [← hh, Bd.state]; rfl
  have N0 := Fr.nil n0
  have pre0 : ∀ t, Steps p.tables e below (s₁.setTop (mkF m 0 #[.val (.ref r0)] [])) t → Steps p.tables e below (s₁.setTop (entryFrame m #[(.ref r0)] 1)) t := fun t k => castTop (ef23 m r0) k
  obtain ⟨T169, X169, e169, st169⟩ := getF X0 hx hZ hown (host := "") (Or.inl (hw _ (List.mem_of_getElem? (i := 112) rfl))) Via.refl e0 F (g := (mkF m 1 #[.val (.ref r0)] [(.ref r0)])) rfl rfl (hb hby d23_1)
  obtain ⟨fs, hrT, hrunT, hendT, hWT, hsameT⟩ := X169.leave (hlocks := BodyLoose.notSynchronized Bd) (v := some (.int un)) (fun h => by rw [Bd.returns] at h; cases h)
  refine ⟨_, _, pre0 _ ?_, hrunT, hendT, _, _, rfl, ?_, ⟨_, rfl⟩, hWT, hsameT.mono (by decide) (by decide)⟩
  · show Steps p.tables e below (s₁.setTop (mkF m 0 #[.val (.ref r0)] [])) _
    refine XS.aloadN X0.here hx rfl (hb hby d23_0) rfl rfl ?_
    show Steps p.tables e below (s₁.setTop (mkF m 1 #[.val (.ref r0)] [(.ref r0)])) _
    refine st169 _ ?_
    show Steps p.tables e below (T169.setTop (mkF m 4 #[.val (.ref r0)] [(.int un)])) _
    exact retI X169 hx Bd.returns (hb hby d23_4) hrT
  · show Q23 Z r0 un h0 n0 _ T169.heap _
    rw [e169]
    exact ⟨rfl, N0, rfl⟩
theorem d20_0 : decode prog_20_method_2_code 0 = .ok (.aload_n 0, 1) := by decide +kernel
theorem d20_1 : decode prog_20_method_2_code 1 = .ok (.aload_n 1, 1) := by decide +kernel
theorem pd__Ljava_lang_Object_Ljava_lang_String__Ljava_lang_Object_ : parseMethodDescriptor "(Ljava/lang/Object;Ljava/lang/String;)Ljava/lang/Object;" = some ⟨[(.object "java/lang/Object"), (.object "java/lang/String")], some (.object "java/lang/Object")⟩ := by decide +kernel
theorem d20_2 : decode prog_20_method_2_code 2 = .ok (.invokestatic 7, 3) := by decide +kernel
theorem d20_5 : decode prog_20_method_2_code 5 = .ok (.pop, 1) := by decide +kernel
theorem d20_6 : decode prog_20_method_2_code 6 = .ok (.aload_n 0, 1) := by decide +kernel
theorem d20_7 : decode prog_20_method_2_code 7 = .ok (.lconst 1, 1) := by decide +kernel
theorem pd__J_Ljava_time_Duration_ : parseMethodDescriptor "(J)Ljava/time/Duration;" = some ⟨[.long], some (.object "java/time/Duration")⟩ := by decide +kernel
theorem d20_8 : decode prog_20_method_2_code 8 = .ok (.invokestatic 13, 3) := by decide +kernel
theorem pd__Ljava_time_Duration__I : parseMethodDescriptor "(Ljava/time/Duration;)I" = some ⟨[(.object "java/time/Duration")], some .int⟩ := by decide +kernel
theorem d20_11 : decode prog_20_method_2_code 11 = .ok (.invokevirtual 19, 3) := by decide +kernel
theorem d20_14 : decode prog_20_method_2_code 14 = .ok (.ifCond .lt 17, 3) := by decide +kernel
theorem d20_17 : decode prog_20_method_2_code 17 = .ok (.aload_n 0, 1) := by decide +kernel
theorem pd___I : parseMethodDescriptor "()I" = some ⟨[], some .int⟩ := by decide +kernel
theorem d20_18 : decode prog_20_method_2_code 18 = .ok (.invokevirtual 23, 3) := by decide +kernel
theorem d20_21 : decode prog_20_method_2_code 21 = .ok (.i2l, 1) := by decide +kernel
theorem d20_22 : decode prog_20_method_2_code 22 = .ok (.ldc2_w 29, 3) := by decide +kernel
theorem d20_25 : decode prog_20_method_2_code 25 = .ok (.lrem, 1) := by decide +kernel
theorem d20_26 : decode prog_20_method_2_code 26 = .ok (.lconst 0, 1) := by decide +kernel
theorem d20_27 : decode prog_20_method_2_code 27 = .ok (.lcmp, 1) := by decide +kernel
theorem d20_28 : decode prog_20_method_2_code 28 = .ok (.ifCond .eq 21, 3) := by decide +kernel
theorem d20_49 : decode prog_20_method_2_code 49 = .ok (.aload_n 0, 1) := by decide +kernel
theorem d20_50 : decode prog_20_method_2_code 50 = .ok (.areturn, 1) := by decide +kernel
theorem pn_Durations : plainName "com/example/even_bucket/evenbucket/Durations" = true := by first | (simp [plainName, overriddenIn]; done) | decide +kernel
theorem ef20 (m : MethodId) (x0 : Addr) (x1 : Addr) : entryFrame m #[(.ref x0), (.ref x1)] 2 = mkF m 0 #[.val (.ref x0), .val (.ref x1)] [] := by first | (simp [entryFrame, mkF, argsToLocals, Value.category]; done) | rfl
def Q20 (Z : State) (r0 : Addr) (r1 : Addr) (us : Int64) (un : Int32) (h0 : Heap) (n0 : Nat) (v : Option Value) (h : Heap) (L : List Loc) : Prop := v = some (.ref r0) ∧ Fr n0 L ∧ Keep h0 h []
set_option maxRecDepth 65536 in
set_option maxHeartbeats 40000000 in
theorem rm20 (l : Launch) (Z : State) (a0 : Array Value) (hw : ∀ d ∈ tables_1, d.before a0 Z = true) (ws : List Jvm.Cond) (r0 : Addr) (r1 : Addr) (us : Int64) (un : Int32) (h0 : Heap) (n0 : Nat) (Z0 : n0 ≤ h0.size) (F0 : Fld Z h0 r0 "java/time/Duration" "seconds" "J" (.long us)) (F1 : Fld Z h0 r0 "java/time/Duration" "nanos" "I" (.int un)) (E1 : Exa Z h0 r0 "java/time/Duration") (hc : ¬ (f_ct us un (f_s (1 : Int64)) (f_n (1 : Int64))) < 0) (hr : ((un.toInt64) - ((un.toInt64) / (1000000 : Int64)) * (1000000 : Int64)) = (0 : Int64)) :
    MetFree l (⟨"com/example/even_bucket/evenbucket/Durations", "requirePositiveWholeMillis", "(Ljava/time/Duration;Ljava/lang/String;)Ljava/time/Duration;"⟩ : MethodName) (head1 (Jvm.Cond.code (⟨"com/example/even_bucket/evenbucket/Durations", "requirePositiveWholeMillis", "(Ljava/time/Duration;Ljava/lang/String;)Ljava/time/Duration;"⟩ : MethodName) prog_20_method_2_code 2 (some (.object "java/time/Duration")) :: ws) ({ frames := 4, cells := 1, slots := 2, locals := 59 } : Room)) (fun a U => a = #[(.ref r0), (.ref r1)] ∧ Z.Warmed39 U.vm ∧ U.heap = h0) (fun _ _ _ _ _ => True) (fun _ U o U' => ∃ v L, o = .returned v ∧ Q20 Z r0 r1 us un h0 n0 v U'.heap L ∧ FrameEnd U o U' L ({ frames := 4, cells := 1, slots := 2, locals := 59 } : Room).cells ({ frames := 4, cells := 1, slots := 2, locals := 59 } : Room).slots) := by
  refine MetFree.of_bodySF (plainFor_of_name pn_Durations) hisR ?_
  intro p e s m args below meth c s₁ Bd hml0 hP hK
  obtain ⟨rfl, hZ, hh⟩ := hP
  have hx := Bd.exec
  have hby := Bd.bytes
  have hml : c.maxLocals = 2 := hml0
  have hown : s.vm.findClass "com/example/even_bucket/evenbucket/Durations" = some m.cls := findClass_of_methodNamed Bd.named
  have hnm := (name_of_methodNamed Bd.named Bd.method).1
  have X0 : Stand p l e ({ frames := 4, cells := 1, slots := 2, locals := 59 } : Room) s m #[(.ref r0), (.ref r1)] below meth c s₁ [] 0 0 := Stand.of_body Bd
  have e0 : s₁.heap = h0 := by rw [← hh, Bd.state]; rfl
  have N0 := Fr.nil n0
  have pre0 : ∀ t, Steps p.tables e below (s₁.setTop (mkF m 0 #[.val (.ref r0), .val (.ref r1)] [])) t → Steps p.tables e below (s₁.setTop (entryFrame m #[(.ref r0), (.ref r1)] 2)) t := fun t k => castTop (ef20 m r0 r1) k
  obtain ⟨_, _, ⟨T170, L170, k170, n170⟩, -, X170, ⟨Lc170, hQ170, l170, y170, z170⟩, st170⟩ := Jvm.LawKit.callS X0 hx (y := (⟨"java/util/Objects", "requireNonNull", "(Ljava/lang/Object;Ljava/lang/String;)Ljava/lang/Object;"⟩ : MethodName)) hown (mvT hZ (hw _ (List.mem_of_getElem? (i := 129) rfl))) (mvT hZ (hw _ (List.mem_of_getElem? (i := 130) rfl))) (mvT hZ (hw _ (List.mem_of_getElem? (i := 131) rfl))) (mvT hZ (hw _ (List.mem_of_getElem? (i := 132) rfl))) (by decide) (backOf (W := 0) (rm21 l Z a0 hw [] r0 r1 h0 n0 Z0 ) hZ (hw _ (List.mem_of_getElem? (i := 132) rfl)) (hw _ (List.mem_of_getElem? (i := 131) rfl)) (by decide) (by decide)) (g := (mkF m 2 #[.val (.ref r0), .val (.ref r1)] [(.ref r1), (.ref r0)])) rfl (by rw [hml]; rfl) (argsL := [(.ref r0), (.ref r1)]) (rest := []) (lenOf pd__Ljava_lang_Object_Ljava_lang_String__Ljava_lang_Object_ rfl) rfl (by show 2 * 0 + _ ≤ _; exact Nat.le_of_eq rfl) (hb hby d20_2) (fun _ _ => ⟨rfl, e0, (by decide : 0 + 0 ≤ _), (by decide : 0 + 0 ≤ _)⟩)
  dsimp only [Pt.U, Pt.locs, Pt.cells, Pt.slots] at X170 l170 y170 z170 st170 hQ170
  subst l170 y170 z170
  obtain ⟨rfl, Nq170, e170⟩ := hQ170
  have N170 := Fr.app N0 Nq170
  obtain ⟨_, _, ⟨T171, L171, k171, n171⟩, -, X171, ⟨Lc171, hQ171, l171, y171, z171⟩, st171⟩ := Jvm.LawKit.callS X170 hx (y := (⟨"java/time/Duration", "ofMillis", "(J)Ljava/time/Duration;"⟩ : MethodName)) hown (mvT hZ (hw _ (List.mem_of_getElem? (i := 133) rfl))) (mvT hZ (hw _ (List.mem_of_getElem? (i := 96) rfl))) (mvT hZ (hw _ (List.mem_of_getElem? (i := 64) rfl))) (mvT hZ (hw _ (List.mem_of_getElem? (i := 97) rfl))) (by decide) (backOf (W := 1) (rm16 l Z a0 hw [] (1 : Int64) h0 n0 Z0 (by decide)) hZ (hw _ (List.mem_of_getElem? (i := 97) rfl)) (hw _ (List.mem_of_getElem? (i := 64) rfl)) (by decide) (by decide)) (g := (mkF m 8 #[.val (.ref r0), .val (.ref r1)] [(.long (1 : Int64)), (.ref r0)])) rfl (by rw [hml]; rfl) (argsL := [(.long (1 : Int64))]) (rest := [(.ref r0)]) (lenOf pd__J_Ljava_time_Duration_ rfl) rfl (by show 2 * 0 + _ ≤ _; exact Nat.le_of_eq rfl) (hb hby d20_8) (fun _ _ => ⟨rfl, e170, (by decide : 0 + 1 ≤ _), (by decide : 0 + 2 ≤ _)⟩)
  dsimp only [Pt.U, Pt.locs, Pt.cells, Pt.slots] at X171 l171 y171 z171 st171 hQ171
  subst l171 y171 z171
  obtain ⟨bb_171, rfl, Nq171, Kq171, f171_0, f171_1, f171_2, f171_3⟩ := hQ171
  have K172 : Keep h0 T171.heap [] := Kq171
  have N171 := Fr.app N170 Nq171
  have ge_bb_171 : n0 ≤ bb_171 := Nat.le_trans Z0 f171_0
  have sz_bb_171 : h0.size ≤ bb_171 := Nat.le_trans (Nat.le_refl _) f171_0
  have c173 : Exa Z T171.heap r0 "java/time/Duration" := (E1.keep Kq171)
  have c175 : Fld Z T171.heap r0 "java/time/Duration" "seconds" "J" (.long us) := (F0.keep Kq171 List.not_mem_nil)
  have c176 : Fld Z T171.heap r0 "java/time/Duration" "nanos" "I" (.int un) := (F1.keep Kq171 List.not_mem_nil)
  obtain ⟨cq174, kq174, q174a, q174b, q174c⟩ := isOf hZ rfl c173
  obtain ⟨_, _, ⟨T174, L174, k174, n174⟩, -, X174, ⟨Lc174, hQ174, l174, y174, z174⟩, st174⟩ := X171.virtualBack hx (y := (⟨"java/time/Duration", "compareTo", "(Ljava/time/Duration;)I"⟩ : MethodName)) (z := (⟨"java/time/Duration", "compareTo", "(Ljava/time/Duration;)I"⟩ : MethodName)) hown (mvT hZ (hw _ (List.mem_of_getElem? (i := 134) rfl))) (mvT hZ (hw _ (List.mem_of_getElem? (i := 135) rfl))) (notFace_of_selects (args := #[]) (mvT hZ (hw _ (List.mem_of_getElem? (i := 137) rfl)))) (mvT hZ (hw _ (List.mem_of_getElem? (i := 137) rfl))) (mvT hZ (hw _ (List.mem_of_getElem? (i := 136) rfl))) (by decide) (backOf (W := 0) (rm22 l Z a0 hw [] r0 bb_171 us un (f_s (1 : Int64)) (f_n (1 : Int64)) T171.heap n0 (Nat.le_trans Z0 K172.1) c175 c176 f171_2 f171_3) hZ (hw _ (List.mem_of_getElem? (i := 138) rfl)) (hw _ (List.mem_of_getElem? (i := 64) rfl)) (by decide) (by decide)) q174a q174c (g := (mkF m 11 #[.val (.ref r0), .val (.ref r1)] [(.ref bb_171), (.ref r0)])) rfl (by rw [hml]; rfl) (Steps.refl _) (argsL := [(.ref bb_171)]) (rest := []) (lenOf pd__Ljava_time_Duration__I rfl) rfl (by show 2 * 0 + _ ≤ _; exact Nat.le_of_eq rfl) (hb hby d20_11) (fun _ _ => ⟨rfl, rfl, (by decide : 1 + 0 ≤ _), (by decide : 2 + 0 ≤ _)⟩)
  dsimp only [Pt.U, Pt.locs, Pt.cells, Pt.slots] at X174 l174 y174 z174 st174 hQ174
  subst l174 y174 z174
  obtain ⟨rfl, Nq174, e174⟩ := hQ174
  have N174 := Fr.app N171 Nq174
  obtain ⟨cq177, kq177, q177a, q177b, q177c⟩ := isOf hZ e174 c173
  obtain ⟨_, _, ⟨T177, L177, k177, n177⟩, -, X177, ⟨Lc177, hQ177, l177, y177, z177⟩, st177⟩ := X174.virtualBack hx (y := (⟨"java/time/Duration", "getNano", "()I"⟩ : MethodName)) (z := (⟨"java/time/Duration", "getNano", "()I"⟩ : MethodName)) hown (mvT hZ (hw _ (List.mem_of_getElem? (i := 140) rfl))) (mvT hZ (hw _ (List.mem_of_getElem? (i := 141) rfl))) (notFace_of_selects (args := #[]) (mvT hZ (hw _ (List.mem_of_getElem? (i := 143) rfl)))) (mvT hZ (hw _ (List.mem_of_getElem? (i := 143) rfl))) (mvT hZ (hw _ (List.mem_of_getElem? (i := 142) rfl))) (by decide) (backOf (W := 0) (rm23 l Z a0 hw [] r0 un T171.heap n0 (Nat.le_trans Z0 K172.1) c176) hZ (hw _ (List.mem_of_getElem? (i := 144) rfl)) (hw _ (List.mem_of_getElem? (i := 64) rfl)) (by decide) (by decide)) q177a q177c (g := (mkF m 18 #[.val (.ref r0), .val (.ref r1)] [(.ref r0)])) rfl (by rw [hml]; rfl) (Steps.refl _) (argsL := []) (rest := []) (lenOf pd___I rfl) rfl (by show 2 * 0 + _ ≤ _; exact Nat.le_of_eq rfl) (hb hby d20_18) (fun _ _ => ⟨rfl, e174, (by decide : 1 + 0 ≤ _), (by decide : 2 + 0 ≤ _)⟩)
  dsimp only [Pt.U, Pt.locs, Pt.cells, Pt.slots] at X177 l177 y177 z177 st177 hQ177
  subst l177 y177 z177
  obtain ⟨rfl, Nq177, e177⟩ := hQ177
  have N177 := Fr.app N174 Nq177
  obtain ⟨fs, hrT, hrunT, hendT, hWT, hsameT⟩ := X177.leave (hlocks := BodyLoose.notSynchronized Bd) (v := some (.ref r0)) (fun h => by rw [Bd.returns] at h; cases h)
  refine ⟨_, _, pre0 _ ?_, hrunT, hendT, _, _, rfl, ?_, ⟨_, rfl⟩, hWT, hsameT.mono (by decide) (by decide)⟩
  · show Steps p.tables e below (s₁.setTop (mkF m 0 #[.val (.ref r0), .val (.ref r1)] [])) _
    refine XS.aloadN X0.here hx rfl (hb hby d20_0) rfl rfl ?_
    show Steps p.tables e below (s₁.setTop (mkF m 1 #[.val (.ref r0), .val (.ref r1)] [(.ref r0)])) _
    refine XS.aloadN X0.here hx rfl (hb hby d20_1) rfl rfl ?_
    show Steps p.tables e below (s₁.setTop (mkF m 2 #[.val (.ref r0), .val (.ref r1)] [(.ref r1), (.ref r0)])) _
    refine st170 _ ?_
    show Steps p.tables e below (T170.setTop (mkF m 5 #[.val (.ref r0), .val (.ref r1)] [(.ref r0)])) _
    refine XS.pop X170.here hx rfl (hb hby d20_5) rfl rfl ?_
    show Steps p.tables e below (T170.setTop (mkF m 6 #[.val (.ref r0), .val (.ref r1)] [])) _
    refine XS.aloadN X170.here hx rfl (hb hby d20_6) rfl rfl ?_
    show Steps p.tables e below (T170.setTop (mkF m 7 #[.val (.ref r0), .val (.ref r1)] [(.ref r0)])) _
    refine XS.lconst X170.here hx rfl (hb hby d20_7) ?_
    show Steps p.tables e below (T170.setTop (mkF m 8 #[.val (.ref r0), .val (.ref r1)] [(.long (1 : Int64)), (.ref r0)])) _
    refine st171 _ ?_
    show Steps p.tables e below (T171.setTop (mkF m 11 #[.val (.ref r0), .val (.ref r1)] [(.ref bb_171), (.ref r0)])) _
    refine st174.trans ?_
    show Steps p.tables e below (T174.setTop (mkF m 14 #[.val (.ref r0), .val (.ref r1)] [(.int (f_ct us un (f_s (1 : Int64)) (f_n (1 : Int64))))])) _
    refine XS.ifNo X174.here hx rfl (hb hby d20_14) rfl (XT.i0_lt_f hc) ?_
    show Steps p.tables e below (T174.setTop (mkF m 17 #[.val (.ref r0), .val (.ref r1)] [])) _
    refine XS.aloadN X174.here hx rfl (hb hby d20_17) rfl rfl ?_
    show Steps p.tables e below (T174.setTop (mkF m 18 #[.val (.ref r0), .val (.ref r1)] [(.ref r0)])) _
    refine st177.trans ?_
    show Steps p.tables e below (T177.setTop (mkF m 21 #[.val (.ref r0), .val (.ref r1)] [(.int un)])) _
    refine XS.i2l X177.here hx rfl (hb hby d20_21) rfl ?_
    show Steps p.tables e below (T177.setTop (mkF m 22 #[.val (.ref r0), .val (.ref r1)] [(.long (un.toInt64))])) _
    refine X177.ldc2Long hx hown (mvT hZ (hw _ (List.mem_of_getElem? (i := 145) rfl))) (g := (mkF m 22 #[.val (.ref r0), .val (.ref r1)] [(.long (un.toInt64))])) rfl (hb hby d20_22) _ ?_
    show Steps p.tables e below (T177.setTop (mkF m 25 #[.val (.ref r0), .val (.ref r1)] [(.long (1000000 : Int64)), (.long (un.toInt64))])) _
    refine XS.lrem X177.here hx rfl (hb hby d20_25) rfl (by decide) ?_
    show Steps p.tables e below (T177.setTop (mkF m 26 #[.val (.ref r0), .val (.ref r1)] [(.long ((un.toInt64) - ((un.toInt64) / (1000000 : Int64)) * (1000000 : Int64)))])) _
    refine XS.lconst X177.here hx rfl (hb hby d20_26) ?_
    show Steps p.tables e below (T177.setTop (mkF m 27 #[.val (.ref r0), .val (.ref r1)] [(.long (0 : Int64)), (.long ((un.toInt64) - ((un.toInt64) / (1000000 : Int64)) * (1000000 : Int64)))])) _
    refine XT.lcmp X177.here hx rfl (hb hby d20_27) rfl ?_
    show Steps p.tables e below (T177.setTop (mkF m 28 #[.val (.ref r0), .val (.ref r1)] [(.int (XT.cmpL ((un.toInt64) - ((un.toInt64) / (1000000 : Int64)) * (1000000 : Int64)) (0 : Int64)))])) _
    refine XS.ifYes X177.here hx rfl (pc0 := 28) (pc' := 49) rfl (hb hby d20_28) rfl (XT.ll_eq_t hr) (by decide) (by decide) ?_
    show Steps p.tables e below (T177.setTop (mkF m 49 #[.val (.ref r0), .val (.ref r1)] [])) _
    refine XS.aloadN X177.here hx rfl (hb hby d20_49) rfl rfl ?_
    show Steps p.tables e below (T177.setTop (mkF m 50 #[.val (.ref r0), .val (.ref r1)] [(.ref r0)])) _
    exact retOut X177 hx Bd.returns rfl (by right; right; right; right; exact ⟨rfl, rfl, rfl⟩) (hb hby d20_50) hrT
  · show Q20 Z r0 r1 us un h0 n0 _ T177.heap _
    rw [e177]
    exact ⟨rfl, N177, K172⟩
theorem d19_0 : decode prog_19_method_3_code 0 = .ok (.new 8, 3) := by decide +kernel
theorem d19_3 : decode prog_19_method_3_code 3 = .ok (.dup, 1) := by decide +kernel
theorem d19_4 : decode prog_19_method_3_code 4 = .ok (.lconst 0, 1) := by decide +kernel
theorem d19_5 : decode prog_19_method_3_code 5 = .ok (.aload_n 0, 1) := by decide +kernel
theorem own_wS {Z : State} {a0 : Array Value} (hw : ∀ d ∈ tables_1, d.before a0 Z = true) : ∀ a ∈ Bundle.stringAtoms, a.before a0 Z = true := by
  intro d hd
  simp only [Bundle.stringAtoms, List.mem_cons, List.not_mem_nil, or_false] at hd
  rcases hd with rfl | rfl | rfl | rfl | rfl | rfl | rfl
  · exact hw _ (List.mem_of_getElem? (i := 118) rfl)
  · exact hw _ (List.mem_of_getElem? (i := 119) rfl)
  · exact hw _ (List.mem_of_getElem? (i := 120) rfl)
  · exact hw _ (List.mem_of_getElem? (i := 121) rfl)
  · exact hw _ (List.mem_of_getElem? (i := 122) rfl)
  · exact hw _ (List.mem_of_getElem? (i := 123) rfl)
  · exact hw _ (List.mem_of_getElem? (i := 124) rfl)
theorem d19_6 : decode prog_19_method_3_code 6 = .ok (.ldc 38, 2) := by decide +kernel
theorem pd__Ljava_time_Duration_Ljava_lang_String__Ljava_time_Duration_ : parseMethodDescriptor "(Ljava/time/Duration;Ljava/lang/String;)Ljava/time/Duration;" = some ⟨[(.object "java/time/Duration"), (.object "java/lang/String")], some (.object "java/time/Duration")⟩ := by decide +kernel
theorem d19_8 : decode prog_19_method_3_code 8 = .ok (.invokestatic 39, 3) := by decide +kernel
theorem d19_11 : decode prog_19_method_3_code 11 = .ok (.iconst 0, 1) := by decide +kernel
theorem d19_12 : decode prog_19_method_3_code 12 = .ok (.invokespecial 35, 3) := by decide +kernel
theorem d19_15 : decode prog_19_method_3_code 15 = .ok (.areturn, 1) := by decide +kernel
theorem ef19 (m : MethodId) (x0 : Addr) : entryFrame m #[(.ref x0)] 1 = mkF m 0 #[.val (.ref x0)] [] := by first | (simp [entryFrame, mkF, argsToLocals, Value.category]; done) | rfl
def Q19 (Z : State) (r0 : Addr) (us : Int64) (un : Int32) (h0 : Heap) (n0 : Nat) (v : Option Value) (h : Heap) (L : List Loc) : Prop := ∃ bb : Addr, v = some (.ref bb) ∧ Fr n0 L ∧ Keep h0 h [] ∧ h0.size ≤ bb ∧ Exa Z h bb "com/example/even_bucket/evenbucket/Decision"
set_option maxRecDepth 65536 in
set_option maxHeartbeats 40000000 in
theorem rm19 (l : Launch) (Z : State) (a0 : Array Value) (hw : ∀ d ∈ tables_1, d.before a0 Z = true) (ws : List Jvm.Cond) (r0 : Addr) (us : Int64) (un : Int32) (h0 : Heap) (n0 : Nat) (Z0 : n0 ≤ h0.size) (F0 : Fld Z h0 r0 "java/time/Duration" "seconds" "J" (.long us)) (F1 : Fld Z h0 r0 "java/time/Duration" "nanos" "I" (.int un)) (E1 : Exa Z h0 r0 "java/time/Duration") (hc : ¬ (f_ct us un (f_s (1 : Int64)) (f_n (1 : Int64))) < 0) (hr : ((un.toInt64) - ((un.toInt64) / (1000000 : Int64)) * (1000000 : Int64)) = (0 : Int64)) :
    MetFree l (⟨"com/example/even_bucket/evenbucket/Decision", "refuse", "(Ljava/time/Duration;)Lcom/example/even_bucket/evenbucket/Decision;"⟩ : MethodName) (head1 (Jvm.Cond.code (⟨"com/example/even_bucket/evenbucket/Decision", "refuse", "(Ljava/time/Duration;)Lcom/example/even_bucket/evenbucket/Decision;"⟩ : MethodName) prog_19_method_3_code 1 (some (.object "com/example/even_bucket/evenbucket/Decision")) :: ws) ({ frames := 5, cells := 4, slots := 49, locals := 76 } : Room)) (fun a U => a = #[(.ref r0)] ∧ Z.Warmed39 U.vm ∧ U.heap = h0) (fun _ _ _ _ _ => True) (fun _ U o U' => ∃ v L, o = .returned v ∧ Q19 Z r0 us un h0 n0 v U'.heap L ∧ ReturnedEndW U o U' L ({ frames := 5, cells := 4, slots := 49, locals := 76 } : Room).cells ({ frames := 5, cells := 4, slots := 49, locals := 76 } : Room).slots) := by
  refine MetFree.of_bodySF (plainFor_of_name pn_Decision) hisR ?_
  intro p e s m args below meth c s₁ Bd hml0 hP hK
  obtain ⟨rfl, hZ, hh⟩ := hP
  have hx := Bd.exec
  have hby := Bd.bytes
  have hml : c.maxLocals = 1 := hml0
  have hown : s.vm.findClass "com/example/even_bucket/evenbucket/Decision" = some m.cls := findClass_of_methodNamed Bd.named
  have hnm := (name_of_methodNamed Bd.named Bd.method).1
  have X0 : Stand p l e ({ frames := 5, cells := 4, slots := 49, locals := 76 } : Room) s m #[(.ref r0)] below meth c s₁ [] 0 0 := Stand.of_body Bd
  have e0 : s₁.heap = h0 := by rw [← hh, Bd.state]; rfl
  have N0 := Fr.nil n0
  have pre0 : ∀ t, Steps p.tables e below (s₁.setTop (mkF m 0 #[.val (.ref r0)] [])) t → Steps p.tables e below (s₁.setTop (entryFrame m #[(.ref r0)] 1)) t := fun t k => castTop (ef19 m r0) k
  obtain ⟨T178, h178, X178, e178, E178, A178, D178, -, st178⟩ := newO X0 hx hZ hown (hw _ (List.mem_of_getElem? (i := 61) rfl)) (hw _ (List.mem_of_getElem? (i := 62) rfl)) (hw _ (List.mem_of_getElem? (i := 59) rfl)) e0 (g := (mkF m 0 #[.val (.ref r0)] [])) rfl (hb hby d19_0) (by decide) (by decide)
  obtain ⟨b178, g178⟩ : ∃ z, z = h0.size := ⟨_, rfl⟩
  rw [← g178] at A178 D178 st178
  have ge_b178 : n0 ≤ b178 := Nat.le_trans Z0 (Nat.le_of_eq g178.symm)
  have sz_b178 : h0.size ≤ b178 := Nat.le_of_eq g178.symm
  have K179 : Keep h0 h178 [] := (Keep.refl h0 []).ext E178
  have F180 : Fld Z h178 b178 "com/example/even_bucket/evenbucket/Decision" "remaining" "J" (.long (0 : Int64)) := D178 (Or.inr (hw _ (List.mem_of_getElem? (i := 70) rfl))) (ty := .long) (by decide)
  have F181 : Fld Z h178 b178 "com/example/even_bucket/evenbucket/Decision" "retryAfter" "Ljava/time/Duration;" .null := D178 (Or.inr (hw _ (List.mem_of_getElem? (i := 72) rfl))) (ty := (.object "java/time/Duration")) (by decide)
  have F182 : Fld Z h178 b178 "com/example/even_bucket/evenbucket/Decision" "byFallback" "Z" (.int (0 : Int32)) := D178 (Or.inr (hw _ (List.mem_of_getElem? (i := 74) rfl))) (ty := .boolean) (by decide)
  obtain ⟨b183, T183, h183, kk183, X183, e183, E183, hS183, hk183, hZ183, hown183, st183⟩ := ldcS (s := s) (vm0 := s.vm) X178 hx hZ hown (hw _ (List.mem_of_getElem? (i := 117) rfl)) (own_wS hw) e178 ((State.WarmedH.refl s).since 0) (Nat.zero_le _) (g := (mkF m 6 #[.val (.ref r0)] [(.ref r0), (.long (0 : Int64)), (.ref b178), (.ref b178)])) rfl (hb hby d19_6) (n := 40) (by decide) (by decide) (by decide) (by decide)
  have K184 : Keep h0 h183 [] := K179.ext E183
  have c186 : Fld Z h183 r0 "java/time/Duration" "seconds" "J" (.long us) := ((F0.ext E178).ext E183)
  have c187 : Fld Z h183 r0 "java/time/Duration" "nanos" "I" (.int un) := ((F1.ext E178).ext E183)
  have c188 : Exa Z h183 r0 "java/time/Duration" := ((E1.ext E178).ext E183)
  obtain ⟨_, _, ⟨T185, L185, k185, n185⟩, -, X185, ⟨Lc185, hQ185, l185, y185, z185⟩, st185⟩ := Jvm.LawKit.callS X183 hx (y := (⟨"com/example/even_bucket/evenbucket/Durations", "requirePositiveWholeMillis", "(Ljava/time/Duration;Ljava/lang/String;)Ljava/time/Duration;"⟩ : MethodName)) hown183 (mvT hZ183 (hw _ (List.mem_of_getElem? (i := 125) rfl))) (mvT hZ183 (hw _ (List.mem_of_getElem? (i := 126) rfl))) (mvT hZ183 (hw _ (List.mem_of_getElem? (i := 127) rfl))) (mvT hZ183 (hw _ (List.mem_of_getElem? (i := 128) rfl))) (by decide) (backOf (W := 4) (rm20 l Z a0 hw [] r0 b183 us un h183 n0 (Nat.le_trans Z0 K184.1) c186 c187 c188 hc hr) hZ183 (hw _ (List.mem_of_getElem? (i := 128) rfl)) (hw _ (List.mem_of_getElem? (i := 127) rfl)) (by decide) (by decide)) (g := (mkF m 8 #[.val (.ref r0)] [(.ref b183), (.ref r0), (.long (0 : Int64)), (.ref b178), (.ref b178)])) rfl (by rw [hml]; rfl) (argsL := [(.ref r0), (.ref b183)]) (rest := [(.long (0 : Int64)), (.ref b178), (.ref b178)]) (lenOf pd__Ljava_time_Duration_Ljava_lang_String__Ljava_time_Duration_ rfl) rfl (by show 2 * 0 + _ ≤ _; exact Nat.le_of_eq rfl) (hb hby d19_8) (fun _ _ => ⟨rfl, e183, (by decide : 3 + 1 ≤ _), (by decide : 47 + 2 ≤ _)⟩)
  dsimp only [Pt.U, Pt.locs, Pt.cells, Pt.slots] at X185 l185 y185 z185 st185 hQ185
  subst l185 y185 z185
  obtain ⟨rfl, Nq185, Kq185⟩ := hQ185
  have K189 : Keep h0 T185.heap [] := K184.trans Kq185 (fun x hx => by simp at hx)
  have hk190 : kk183 ≤ T185.heap.size := Nat.le_trans hk183 Kq185.1
  have N185 := Fr.app N0 Nq185
  have c192 : Fld Z T185.heap b178 "com/example/even_bucket/evenbucket/Decision" "remaining" "J" (.long (0 : Int64)) := ((F180.ext E183).keep Kq185 List.not_mem_nil)
  have c193 : Fld Z T185.heap b178 "com/example/even_bucket/evenbucket/Decision" "retryAfter" "Ljava/time/Duration;" .null := ((F181.ext E183).keep Kq185 List.not_mem_nil)
  have c194 : Fld Z T185.heap b178 "com/example/even_bucket/evenbucket/Decision" "byFallback" "Z" (.int (0 : Int32)) := ((F182.ext E183).keep Kq185 List.not_mem_nil)
  have c195 : Exa Z T185.heap b178 "com/example/even_bucket/evenbucket/Decision" := ((A178.ext E183).keep Kq185)
  obtain ⟨_, _, ⟨T191, L191, k191, n191⟩, -, X191, ⟨Lc191, hQ191, l191, y191, z191⟩, st191⟩ := X185.specialBack hx (y := (⟨"com/example/even_bucket/evenbucket/Decision", "<init>", "(JLjava/time/Duration;Z)V"⟩ : MethodName)) rfl hown183 (mvT hZ183 (hw _ (List.mem_of_getElem? (i := 65) rfl))) (mvT hZ183 (hw _ (List.mem_of_getElem? (i := 66) rfl))) (mvT hZ183 (hw _ (List.mem_of_getElem? (i := 67) rfl))) (by decide) (backOf (W := 1) (rm11 l Z a0 hw [] b178 (0 : Int64) r0 (0 : Int32) T185.heap n0 (Nat.le_trans Z0 K189.1) c192 c193 c194 c195 ge_b178) hZ183 (hw _ (List.mem_of_getElem? (i := 67) rfl)) (hw _ (List.mem_of_getElem? (i := 59) rfl)) (by decide) (by decide)) (g := (mkF m 12 #[.val (.ref r0)] [(.int (0 : Int32)), (.ref r0), (.long (0 : Int64)), (.ref b178), (.ref b178)])) rfl (by rw [hml]; rfl) (Steps.refl _) (a := b178) (argsL := [(.long (0 : Int64)), (.ref r0), (.int (0 : Int32))]) (rest := [(.ref b178)]) (lenOf pd__JLjava_time_Duration_Z_V rfl) rfl (by show 2 * 0 + _ ≤ _; exact Nat.le_of_eq rfl) (hb hby d19_12) (fun _ _ => ⟨rfl, rfl, (by decide : 4 + 0 ≤ _), (by decide : 49 + 0 ≤ _)⟩)
  dsimp only [Pt.U, Pt.locs, Pt.cells, Pt.slots] at X191 l191 y191 z191 st191 hQ191
  subst l191 y191 z191
  obtain ⟨rfl, Nq191, Kq191, f191_0, f191_1⟩ := hQ191
  have K196 : Keep h0 T191.heap [] := K189.trans Kq191 (fun x hx => by cases List.mem_singleton.mp hx; exact Or.inr sz_b178)
  have hk197 : kk183 ≤ T191.heap.size := Nat.le_trans hk190 Kq191.1
  have N191 := Fr.app N185 Nq191
  obtain ⟨fs, hrT, hrunT, hendT, hRW⟩ := X191.leaveW (hlocks := BodyLoose.notSynchronized Bd) hS183 (v := some (.ref b178)) hk197 (fun h => by rw [Bd.returns] at h; cases h)
  refine ⟨_, _, pre0 _ ?_, hrunT, hendT, _, _, rfl, ?_, hRW.1, hRW.2.1, hRW.2.2.1, hRW.2.2.2.mono (by decide) (by decide)⟩
  · show Steps p.tables e below (s₁.setTop (mkF m 0 #[.val (.ref r0)] [])) _
    refine st178 _ ?_
    show Steps p.tables e below (T178.setTop (mkF m 3 #[.val (.ref r0)] [(.ref b178)])) _
    refine XS.dup X178.here hx rfl (hb hby d19_3) rfl rfl ?_
    show Steps p.tables e below (T178.setTop (mkF m 4 #[.val (.ref r0)] [(.ref b178), (.ref b178)])) _
    refine XS.lconst X178.here hx rfl (hb hby d19_4) ?_
    show Steps p.tables e below (T178.setTop (mkF m 5 #[.val (.ref r0)] [(.long (0 : Int64)), (.ref b178), (.ref b178)])) _
    refine XS.aloadN X178.here hx rfl (hb hby d19_5) rfl rfl ?_
    show Steps p.tables e below (T178.setTop (mkF m 6 #[.val (.ref r0)] [(.ref r0), (.long (0 : Int64)), (.ref b178), (.ref b178)])) _
    refine st183 _ ?_
    show Steps p.tables e below (T183.setTop (mkF m 8 #[.val (.ref r0)] [(.ref b183), (.ref r0), (.long (0 : Int64)), (.ref b178), (.ref b178)])) _
    refine st185 _ ?_
    show Steps p.tables e below (T185.setTop (mkF m 11 #[.val (.ref r0)] [(.ref r0), (.long (0 : Int64)), (.ref b178), (.ref b178)])) _
    refine XS.iconst X185.here hx rfl (hb hby d19_11) ?_
    show Steps p.tables e below (T185.setTop (mkF m 12 #[.val (.ref r0)] [(.int (0 : Int32)), (.ref r0), (.long (0 : Int64)), (.ref b178), (.ref b178)])) _
    refine st191.trans ?_
    show Steps p.tables e below (T191.setTop (mkF m 15 #[.val (.ref r0)] [(.ref b178)])) _
    exact retOut X191 hx Bd.returns rfl (by right; right; right; right; exact ⟨rfl, rfl, rfl⟩) (hb hby d19_15) hrT
  · show Q19 Z r0 us un h0 n0 _ T191.heap _
    have c198 : Exa Z T191.heap b178 "com/example/even_bucket/evenbucket/Decision" := (c195.keep Kq191)
    exact ⟨b178, rfl, N191, K196, sz_b178, c198⟩
theorem own_hc {m : Int64} (h : 1 ≤ m.toInt) : ¬ (f_ct (f_s m) (f_n m) (f_s (1 : Int64)) (f_n (1 : Int64))) < 0 := by
  have e1 : (f_s m).toInt = m.toInt / 1000 := (own_ms h).1
  have e2 := (own_ms h).2.2
  have o1 : (f_s (1 : Int64)).toInt = 0 := by decide
  have o2 : (f_n (1 : Int64)).toInt = 1000000 := by decide
  have z : f_s (1 : Int64) = 0 := by decide
  unfold f_ct f_cmp
  have q1 : ¬ (f_s m) < (f_s (1 : Int64)) := by rw [Int64.lt_iff_toInt_lt]; omega
  rw [if_neg q1]
  by_cases q2 : f_s m = f_s (1 : Int64)
  · rw [if_pos q2, if_pos rfl]
    have q3 := congrArg Int64.toInt q2
    rw [XT.negI32, Jvm.Kit.i32_sub (by omega) (by omega), e2, o2]
    omega
  · rw [if_neg q2, if_neg (by decide)]; decide
theorem own_hr {m : Int64} (h : 1 ≤ m.toInt) : (((f_n m).toInt64) - (((f_n m).toInt64) / (1000000 : Int64)) * (1000000 : Int64)) = (0 : Int64) := by
  have e2 := (own_ms h).2.2
  rw [← Int64.toInt_inj, Jvm.Kit.i64_rem_nonneg (by rw [Jvm.Kit.i64_of_i32]; omega), Jvm.Kit.i64_of_i32, e2, show (1000000 : Int64).toInt = 1000000 from rfl, show (0 : Int64).toInt = 0 from rfl]
  omega
theorem d14_0 : decode prog_26_method_12_code 0 = .ok (.lload_n 1, 1) := by decide +kernel
theorem d14_1 : decode prog_26_method_12_code 1 = .ok (.aload_n 0, 1) := by decide +kernel
theorem d14_2 : decode prog_26_method_12_code 2 = .ok (.getfield 20, 3) := by decide +kernel
theorem d14_5 : decode prog_26_method_12_code 5 = .ok (.lsub, 1) := by decide +kernel
theorem d14_6 : decode prog_26_method_12_code 6 = .ok (.lstore_n 3, 1) := by decide +kernel
theorem d14_7 : decode prog_26_method_12_code 7 = .ok (.lload_n 3, 1) := by decide +kernel
theorem d14_8 : decode prog_26_method_12_code 8 = .ok (.aload_n 0, 1) := by decide +kernel
theorem d14_9 : decode prog_26_method_12_code 9 = .ok (.getfield 13, 3) := by decide +kernel
theorem d14_12 : decode prog_26_method_12_code 12 = .ok (.invokestatic 81, 3) := by decide +kernel
theorem d14_15 : decode prog_26_method_12_code 15 = .ok (.invokestatic 84, 3) := by decide +kernel
theorem pd__Ljava_time_Duration__Lcom_example_even_bucket_evenbucket_Decision_ : parseMethodDescriptor "(Ljava/time/Duration;)Lcom/example/even_bucket/evenbucket/Decision;" = some ⟨[(.object "java/time/Duration")], some (.object "com/example/even_bucket/evenbucket/Decision")⟩ := by decide +kernel
theorem d14_18 : decode prog_26_method_12_code 18 = .ok (.invokestatic 90, 3) := by decide +kernel
theorem d14_21 : decode prog_26_method_12_code 21 = .ok (.areturn, 1) := by decide +kernel
theorem ef14 (m : MethodId) (x0 : Addr) (x1 : Int64) : entryFrame m #[(.ref x0), (.long x1)] 5 = mkF m 0 #[.val (.ref x0), .val (.long x1), .second, .unset, .unset] [] := by first | (simp [entryFrame, mkF, argsToLocals, Value.category]; done) | rfl
def Q14 (Z : State) (r0 : Addr) (q1 : Int64) (um : Int64) (us : Int64) (h0 : Heap) (n0 : Nat) (v : Option Value) (h : Heap) (L : List Loc) : Prop := ∃ bb : Addr, v = some (.ref bb) ∧ Fr n0 L ∧ Keep h0 h [] ∧ h0.size ≤ bb ∧ Exa Z h bb "com/example/even_bucket/evenbucket/Decision"
set_option maxRecDepth 65536 in
set_option maxHeartbeats 40000000 in
theorem rm14 (l : Launch) (Z : State) (a0 : Array Value) (hw : ∀ d ∈ tables_1, d.before a0 Z = true) (ws : List Jvm.Cond) (r0 : Addr) (q1 : Int64) (um : Int64) (us : Int64) (h0 : Heap) (n0 : Nat) (Z0 : n0 ≤ h0.size) (F0 : Fld Z h0 r0 "com/example/even_bucket/evenbucket/GreedyBucket" "unitsPerMilli" "J" (.long um)) (F1 : Fld Z h0 r0 "com/example/even_bucket/evenbucket/GreedyBucket" "mostDeficitWithAPermit" "J" (.long us)) (hz : ¬ um = 0) (hm : 1 ≤ (f_dru (q1 - us) um).toInt) :
    MetFree l (⟨"com/example/even_bucket/evenbucket/GreedyBucket", "refusal", "(J)Lcom/example/even_bucket/evenbucket/Decision;"⟩ : MethodName) (head1 (Jvm.Cond.code (⟨"com/example/even_bucket/evenbucket/GreedyBucket", "refusal", "(J)Lcom/example/even_bucket/evenbucket/Decision;"⟩ : MethodName) prog_26_method_12_code 5 (some (.object "com/example/even_bucket/evenbucket/Decision")) :: ws) ({ frames := 6, cells := 5, slots := 51, locals := 88 } : Room)) (fun a U => a = #[(.ref r0), (.long q1)] ∧ Z.Warmed39 U.vm ∧ U.heap = h0) (fun _ _ _ _ _ => True) (fun _ U o U' => ∃ v L, o = .returned v ∧ Q14 Z r0 q1 um us h0 n0 v U'.heap L ∧ ReturnedEndW U o U' L ({ frames := 6, cells := 5, slots := 51, locals := 88 } : Room).cells ({ frames := 6, cells := 5, slots := 51, locals := 88 } : Room).slots) := by
  refine MetFree.of_bodySF (plainFor_of_name pn_GreedyBucket) hisR ?_
  intro p e s m args below meth c s₁ Bd hml0 hP hK
  obtain ⟨rfl, hZ, hh⟩ := hP
  have hx := Bd.exec
  have hby := Bd.bytes
  have hml : c.maxLocals = 5 := hml0
  have hown : s.vm.findClass "com/example/even_bucket/evenbucket/GreedyBucket" = some m.cls := findClass_of_methodNamed Bd.named
  have hnm := (name_of_methodNamed Bd.named Bd.method).1
  have X0 : Stand p l e ({ frames := 6, cells := 5, slots := 51, locals := 88 } : Room) s m #[(.ref r0), (.long q1)] below meth c s₁ [] 0 0 := Stand.of_body Bd
  have e0 : s₁.heap = h0 := by rw [← hh, Bd.state]; rfl
  have N0 := Fr.nil n0
  have pre0 : ∀ t, Steps p.tables e below (s₁.setTop (mkF m 0 #[.val (.ref r0), .val (.long q1), .second, .unset, .unset] [])) t → Steps p.tables e below (s₁.setTop (entryFrame m #[(.ref r0), (.long q1)] 5)) t := fun t k => castTop (ef14 m r0 q1) k
  obtain ⟨T199, X199, e199, st199⟩ := getF X0 hx hZ hown (host := "") (Or.inl (hw _ (List.mem_of_getElem? (i := 23) rfl))) Via.refl e0 F1 (g := (mkF m 2 #[.val (.ref r0), .val (.long q1), .second, .unset, .unset] [(.ref r0), (.long q1)])) rfl rfl (hb hby d14_2)
  obtain ⟨T200, X200, e200, st200⟩ := getF X199 hx hZ hown (host := "") (Or.inl (hw _ (List.mem_of_getElem? (i := 19) rfl))) Via.refl e199 F0 (g := (mkF m 9 #[.val (.ref r0), .val (.long q1), .second, .val (.long (q1 - us)), .second] [(.ref r0), (.long (q1 - us))])) rfl rfl (hb hby d14_9)
  obtain ⟨_, _, ⟨T201, L201, k201, n201⟩, -, X201, ⟨Lc201, hQ201, l201, y201, z201⟩, st201⟩ := Jvm.LawKit.callS X200 hx (y := (⟨"com/example/even_bucket/evenbucket/GreedyBucket", "untilAPermit", "(JJ)J"⟩ : MethodName)) hown (mvT hZ (hw _ (List.mem_of_getElem? (i := 92) rfl))) (mvT hZ (hw _ (List.mem_of_getElem? (i := 93) rfl))) (mvT hZ (hw _ (List.mem_of_getElem? (i := 10) rfl))) (mvT hZ (hw _ (List.mem_of_getElem? (i := 94) rfl))) (by decide) (backOf (W := 0) (rm15 l Z a0 hw [] (q1 - us) um h0 n0 Z0 hz) hZ (hw _ (List.mem_of_getElem? (i := 94) rfl)) (hw _ (List.mem_of_getElem? (i := 10) rfl)) (by decide) (by decide)) (g := (mkF m 12 #[.val (.ref r0), .val (.long q1), .second, .val (.long (q1 - us)), .second] [(.long um), (.long (q1 - us))])) rfl (by rw [hml]; rfl) (argsL := [(.long (q1 - us)), (.long um)]) (rest := []) (lenOf pd__JJ_J rfl) rfl (by show 2 * 0 + _ ≤ _; exact Nat.le_of_eq rfl) (hb hby d14_12) (fun _ _ => ⟨rfl, e200, (by decide : 0 + 0 ≤ _), (by decide : 0 + 0 ≤ _)⟩)
  dsimp only [Pt.U, Pt.locs, Pt.cells, Pt.slots] at X201 l201 y201 z201 st201 hQ201
  subst l201 y201 z201
  obtain ⟨rfl, Nq201, e201⟩ := hQ201
  have N201 := Fr.app N0 Nq201
  obtain ⟨_, _, ⟨T202, L202, k202, n202⟩, -, X202, ⟨Lc202, hQ202, l202, y202, z202⟩, st202⟩ := Jvm.LawKit.callS X201 hx (y := (⟨"java/time/Duration", "ofMillis", "(J)Ljava/time/Duration;"⟩ : MethodName)) hown (mvT hZ (hw _ (List.mem_of_getElem? (i := 95) rfl))) (mvT hZ (hw _ (List.mem_of_getElem? (i := 96) rfl))) (mvT hZ (hw _ (List.mem_of_getElem? (i := 64) rfl))) (mvT hZ (hw _ (List.mem_of_getElem? (i := 97) rfl))) (by decide) (backOf (W := 0) (rm16 l Z a0 hw [] (f_dru (q1 - us) um) h0 n0 Z0 hm) hZ (hw _ (List.mem_of_getElem? (i := 97) rfl)) (hw _ (List.mem_of_getElem? (i := 64) rfl)) (by decide) (by decide)) (g := (mkF m 15 #[.val (.ref r0), .val (.long q1), .second, .val (.long (q1 - us)), .second] [(.long (f_dru (q1 - us) um))])) rfl (by rw [hml]; rfl) (argsL := [(.long (f_dru (q1 - us) um))]) (rest := []) (lenOf pd__J_Ljava_time_Duration_ rfl) rfl (by show 2 * 0 + _ ≤ _; exact Nat.le_of_eq rfl) (hb hby d14_15) (fun _ _ => ⟨rfl, e201, (by decide : 0 + 1 ≤ _), (by decide : 0 + 2 ≤ _)⟩)
  dsimp only [Pt.U, Pt.locs, Pt.cells, Pt.slots] at X202 l202 y202 z202 st202 hQ202
  subst l202 y202 z202
  obtain ⟨bb_202, rfl, Nq202, Kq202, f202_0, f202_1, f202_2, f202_3⟩ := hQ202
  have K203 : Keep h0 T202.heap [] := Kq202
  have N202 := Fr.app N201 Nq202
  have ge_bb_202 : n0 ≤ bb_202 := Nat.le_trans Z0 f202_0
  have sz_bb_202 : h0.size ≤ bb_202 := Nat.le_trans (Nat.le_refl _) f202_0
  obtain ⟨_, _, ⟨T204, L204, k204, n204⟩, -, X204, hS204, gr204, ⟨Lc204, hQ204, l204, y204, z204⟩, st204⟩ := callSS X202 hx (y := (⟨"com/example/even_bucket/evenbucket/Decision", "refuse", "(Ljava/time/Duration;)Lcom/example/even_bucket/evenbucket/Decision;"⟩ : MethodName)) hown (mvT hZ (hw _ (List.mem_of_getElem? (i := 114) rfl))) (mvT hZ (hw _ (List.mem_of_getElem? (i := 115) rfl))) (mvT hZ (hw _ (List.mem_of_getElem? (i := 59) rfl))) (mvT hZ (hw _ (List.mem_of_getElem? (i := 116) rfl))) (by decide) (backOfS (W := 0) (rm19 l Z a0 hw [] bb_202 (f_s (f_dru (q1 - us) um)) (f_n (f_dru (q1 - us) um)) T202.heap n0 (Nat.le_trans Z0 K203.1) f202_2 f202_3 f202_1 (own_hc hm) (own_hr hm)) hZ (hw _ (List.mem_of_getElem? (i := 116) rfl)) (hw _ (List.mem_of_getElem? (i := 59) rfl)) (by decide) (by decide)) (g := (mkF m 18 #[.val (.ref r0), .val (.long q1), .second, .val (.long (q1 - us)), .second] [(.ref bb_202)])) rfl (by rw [hml]; rfl) (argsL := [(.ref bb_202)]) (rest := []) (lenOf pd__Ljava_time_Duration__Lcom_example_even_bucket_evenbucket_Decision_ rfl) rfl (by show 2 * 0 + _ ≤ _; exact Nat.le_of_eq rfl) (hb hby d14_18) (fun _ _ => ⟨rfl, rfl, (by decide : 1 + 4 ≤ _), (by decide : 2 + 49 ≤ _)⟩)
  dsimp only [Pt.U, Pt.locs, Pt.cells, Pt.slots] at X204 l204 y204 z204 st204 hQ204
  subst l204 y204 z204
  dsimp only [Pt.U, Pt.locs, Pt.cells, Pt.slots] at hS204 gr204
  obtain ⟨bb_204, rfl, Nq204, Kq204, f204_0, f204_1⟩ := hQ204
  have K205 : Keep h0 T204.heap [] := K203.trans Kq204 (fun x hx => by simp at hx)
  have N204 := Fr.app N202 Nq204
  have hZ204 : Z.Warmed39 (s.setVm T204.vm).vm := State.Warmed39.trans (t := s) hZ hS204.1
  have hown204 : (s.setVm T204.vm).vm.findClass "com/example/even_bucket/evenbucket/GreedyBucket" = some m.cls := (hS204.1.alike.findClass _ _).trans hown
  have ge_bb_204 : n0 ≤ bb_204 := Nat.le_trans (Nat.le_trans Z0 K203.1) f204_0
  have sz_bb_204 : h0.size ≤ bb_204 := Nat.le_trans K203.1 f204_0
  obtain ⟨fs, hrT, hrunT, hendT, hRW⟩ := X204.leaveW (hlocks := BodyLoose.notSynchronized Bd) hS204 (v := some (.ref bb_204)) (Nat.le_refl _) (fun h => by rw [Bd.returns] at h; cases h)
  refine ⟨_, _, pre0 _ ?_, hrunT, hendT, _, _, rfl, ?_, hRW.1, hRW.2.1, hRW.2.2.1, hRW.2.2.2.mono (by decide) (by decide)⟩
  · show Steps p.tables e below (s₁.setTop (mkF m 0 #[.val (.ref r0), .val (.long q1), .second, .unset, .unset] [])) _
    refine XS.lloadN X0.here hx rfl (hb hby d14_0) rfl ?_
    show Steps p.tables e below (s₁.setTop (mkF m 1 #[.val (.ref r0), .val (.long q1), .second, .unset, .unset] [(.long q1)])) _
    refine XS.aloadN X0.here hx rfl (hb hby d14_1) rfl rfl ?_
    show Steps p.tables e below (s₁.setTop (mkF m 2 #[.val (.ref r0), .val (.long q1), .second, .unset, .unset] [(.ref r0), (.long q1)])) _
    refine st199 _ ?_
    show Steps p.tables e below (T199.setTop (mkF m 5 #[.val (.ref r0), .val (.long q1), .second, .unset, .unset] [(.long us), (.long q1)])) _
    refine XS.lsub X199.here hx rfl (hb hby d14_5) rfl ?_
    show Steps p.tables e below (T199.setTop (mkF m 6 #[.val (.ref r0), .val (.long q1), .second, .unset, .unset] [(.long (q1 - us))])) _
    refine XS.lstoreN X199.here hx rfl (hb hby d14_6) rfl (l' := #[.val (.ref r0), .val (.long q1), .second, .val (.long (q1 - us)), .second]) rfl ?_
    show Steps p.tables e below (T199.setTop (mkF m 7 #[.val (.ref r0), .val (.long q1), .second, .val (.long (q1 - us)), .second] [])) _
    refine XS.lloadN X199.here hx rfl (hb hby d14_7) rfl ?_
    show Steps p.tables e below (T199.setTop (mkF m 8 #[.val (.ref r0), .val (.long q1), .second, .val (.long (q1 - us)), .second] [(.long (q1 - us))])) _
    refine XS.aloadN X199.here hx rfl (hb hby d14_8) rfl rfl ?_
    show Steps p.tables e below (T199.setTop (mkF m 9 #[.val (.ref r0), .val (.long q1), .second, .val (.long (q1 - us)), .second] [(.ref r0), (.long (q1 - us))])) _
    refine st200 _ ?_
    show Steps p.tables e below (T200.setTop (mkF m 12 #[.val (.ref r0), .val (.long q1), .second, .val (.long (q1 - us)), .second] [(.long um), (.long (q1 - us))])) _
    refine st201 _ ?_
    show Steps p.tables e below (T201.setTop (mkF m 15 #[.val (.ref r0), .val (.long q1), .second, .val (.long (q1 - us)), .second] [(.long (f_dru (q1 - us) um))])) _
    refine st202 _ ?_
    show Steps p.tables e below (T202.setTop (mkF m 18 #[.val (.ref r0), .val (.long q1), .second, .val (.long (q1 - us)), .second] [(.ref bb_202)])) _
    refine st204.trans ?_
    show Steps p.tables e below (T204.setTop (mkF m 21 #[.val (.ref r0), .val (.long q1), .second, .val (.long (q1 - us)), .second] [(.ref bb_204)])) _
    exact retOut X204 hx Bd.returns rfl (by right; right; right; right; exact ⟨rfl, rfl, rfl⟩) (hb hby d14_21) hrT
  · show Q14 Z r0 q1 um us h0 n0 _ T204.heap _
    exact ⟨bb_204, rfl, N204, K205, sz_bb_204, f204_1⟩
theorem d25_0 : decode jdk_30_method_1_code 0 = .ok (.aload_n 0, 1) := by decide +kernel
theorem d25_1 : decode jdk_30_method_1_code 1 = .ok (.invokespecial 1, 3) := by decide +kernel
theorem d25_4 : decode jdk_30_method_1_code 4 = .ok (.return_, 1) := by decide +kernel
theorem pn_Record : plainName "java/lang/Record" = true := by first | (simp [plainName, overriddenIn]; done) | decide +kernel
theorem ef25 (m : MethodId) (x0 : Addr) : entryFrame m #[(.ref x0)] 1 = mkF m 0 #[.val (.ref x0)] [] := by first | (simp [entryFrame, mkF, argsToLocals, Value.category]; done) | rfl
def Q25 (Z : State) (r0 : Addr) (h0 : Heap) (n0 : Nat) (v : Option Value) (h : Heap) (L : List Loc) : Prop := v = none ∧ Fr n0 L ∧ h = h0
set_option maxRecDepth 65536 in
set_option maxHeartbeats 40000000 in
theorem rm25 (l : Launch) (Z : State) (a0 : Array Value) (hw : ∀ d ∈ tables_1, d.before a0 Z = true) (ws : List Jvm.Cond) (r0 : Addr) (h0 : Heap) (n0 : Nat) (Z0 : n0 ≤ h0.size) :
    MetFree l (⟨"java/lang/Record", "<init>", "()V"⟩ : MethodName) (head1 (Jvm.Cond.code (⟨"java/lang/Record", "<init>", "()V"⟩ : MethodName) jdk_30_method_1_code 1 none :: ws) ({ frames := 1, cells := 0, slots := 0, locals := 12 } : Room)) (fun a U => a = #[(.ref r0)] ∧ Z.Warmed39 U.vm ∧ U.heap = h0) (fun _ _ _ _ _ => True) (fun _ U o U' => ∃ v L, o = .returned v ∧ Q25 Z r0 h0 n0 v U'.heap L ∧ FrameEnd U o U' L ({ frames := 1, cells := 0, slots := 0, locals := 12 } : Room).cells ({ frames := 1, cells := 0, slots := 0, locals := 12 } : Room).slots) := by
  refine MetFree.of_bodySF (plainFor_of_name pn_Record) hisR ?_
  intro p e s m args below meth c s₁ Bd hml0 hP hK
  obtain ⟨rfl, hZ, hh⟩ := hP
  have hx := Bd.exec
  have hby := Bd.bytes
  have hml : c.maxLocals = 1 := hml0
  have hown : s.vm.findClass "java/lang/Record" = some m.cls := findClass_of_methodNamed Bd.named
  have hnm := (name_of_methodNamed Bd.named Bd.method).1
  have X0 : Stand p l e ({ frames := 1, cells := 0, slots := 0, locals := 12 } : Room) s m #[(.ref r0)] below meth c s₁ [] 0 0 := Stand.of_body Bd
  have e0 : s₁.heap = h0 := by rw [← hh, Bd.state]; rfl
  have N0 := Fr.nil n0
  have pre0 : ∀ t, Steps p.tables e below (s₁.setTop (mkF m 0 #[.val (.ref r0)] [])) t → Steps p.tables e below (s₁.setTop (entryFrame m #[(.ref r0)] 1)) t := fun t k => castTop (ef25 m r0) k
  obtain ⟨T206, X206, e206, st206⟩ := initO X0 hx hZ hown (hw _ (List.mem_of_getElem? (i := 154) rfl)) (hw _ (List.mem_of_getElem? (i := 15) rfl)) (hw _ (List.mem_of_getElem? (i := 16) rfl)) e0 (g := (mkF m 1 #[.val (.ref r0)] [(.ref r0)])) rfl (by rw [hml]; rfl) rfl (hb hby d25_1) (by decide) (W := 0) (by show 2 * 0 + _ ≤ _; exact Nat.le_of_eq rfl) (by decide)
  obtain ⟨fs, hrT, hrunT, hendT, hWT, hsameT⟩ := X206.leave (hlocks := BodyLoose.notSynchronized Bd) (v := none) (fun _ => rfl)
  refine ⟨_, _, pre0 _ ?_, hrunT, hendT, _, _, rfl, ?_, ⟨_, rfl⟩, hWT, hsameT.mono (by decide) (by decide)⟩
  · show Steps p.tables e below (s₁.setTop (mkF m 0 #[.val (.ref r0)] [])) _
    refine XS.aloadN X0.here hx rfl (hb hby d25_0) rfl rfl ?_
    show Steps p.tables e below (s₁.setTop (mkF m 1 #[.val (.ref r0)] [(.ref r0)])) _
    refine st206 _ ?_
    show Steps p.tables e below (T206.setTop (mkF m 4 #[.val (.ref r0)] [])) _
    exact X206.returnOut hx Bd.returns (hb hby d25_4) hrT
  · show Q25 Z r0 h0 n0 _ T206.heap _
    rw [e206]
    exact ⟨rfl, N0, rfl⟩
theorem d24_0 : decode prog_12_method_1_code 0 = .ok (.aload_n 0, 1) := by decide +kernel
theorem pd___V : parseMethodDescriptor "()V" = some ⟨[], none⟩ := by decide +kernel
theorem d24_1 : decode prog_12_method_1_code 1 = .ok (.invokespecial 1, 3) := by decide +kernel
theorem d24_4 : decode prog_12_method_1_code 4 = .ok (.aload_n 0, 1) := by decide +kernel
theorem d24_5 : decode prog_12_method_1_code 5 = .ok (.lload_n 1, 1) := by decide +kernel
theorem d24_6 : decode prog_12_method_1_code 6 = .ok (.putfield 7, 3) := by decide +kernel
theorem d24_9 : decode prog_12_method_1_code 9 = .ok (.aload_n 0, 1) := by decide +kernel
theorem d24_10 : decode prog_12_method_1_code 10 = .ok (.iload_n 3, 1) := by decide +kernel
theorem d24_11 : decode prog_12_method_1_code 11 = .ok (.putfield 13, 3) := by decide +kernel
theorem d24_14 : decode prog_12_method_1_code 14 = .ok (.aload_n 0, 1) := by decide +kernel
theorem d24_15 : decode prog_12_method_1_code 15 = .ok (.lload 4, 2) := by decide +kernel
theorem d24_17 : decode prog_12_method_1_code 17 = .ok (.putfield 17, 3) := by decide +kernel
theorem d24_20 : decode prog_12_method_1_code 20 = .ok (.aload_n 0, 1) := by decide +kernel
theorem d24_21 : decode prog_12_method_1_code 21 = .ok (.aload 6, 2) := by decide +kernel
theorem d24_23 : decode prog_12_method_1_code 23 = .ok (.putfield 20, 3) := by decide +kernel
theorem d24_26 : decode prog_12_method_1_code 26 = .ok (.return_, 1) := by decide +kernel
theorem pn_Admissions_Moment : plainName "com/example/even_bucket/evenbucket/Admissions$Moment" = true := by first | (simp [plainName, overriddenIn]; done) | decide +kernel
theorem ef24 (m : MethodId) (x0 : Addr) (x1 : Int64) (x2 : Int32) (x3 : Int64) (x4 : Addr) : entryFrame m #[(.ref x0), (.long x1), (.int x2), (.long x3), (.ref x4)] 7 = mkF m 0 #[.val (.ref x0), .val (.long x1), .second, .val (.int x2), .val (.long x3), .second, .val (.ref x4)] [] := by first | (simp [entryFrame, mkF, argsToLocals, Value.category]; done) | rfl
def Q24 (Z : State) (r0 : Addr) (q1 : Int64) (p2 : Int32) (q3 : Int64) (r4 : Addr) (h0 : Heap) (n0 : Nat) (v : Option Value) (h : Heap) (L : List Loc) : Prop := v = none ∧ Fr n0 L ∧ Keep h0 h [r0] ∧ Fld Z h r0 "com/example/even_bucket/evenbucket/Admissions$Moment" "millis" "J" (.long q1) ∧ Fld Z h r0 "com/example/even_bucket/evenbucket/Admissions$Moment" "free" "I" (.int p2) ∧ Fld Z h r0 "com/example/even_bucket/evenbucket/Admissions$Moment" "newest" "J" (.long q3) ∧ Fld Z h r0 "com/example/even_bucket/evenbucket/Admissions$Moment" "refusal" "Lcom/example/even_bucket/evenbucket/Decision;" (.ref r4)
set_option maxRecDepth 65536 in
set_option maxHeartbeats 40000000 in
theorem rm24 (l : Launch) (Z : State) (a0 : Array Value) (hw : ∀ d ∈ tables_1, d.before a0 Z = true) (ws : List Jvm.Cond) (r0 : Addr) (q1 : Int64) (p2 : Int32) (q3 : Int64) (r4 : Addr) (h0 : Heap) (n0 : Nat) (Z0 : n0 ≤ h0.size) (F0 : Fld Z h0 r0 "com/example/even_bucket/evenbucket/Admissions$Moment" "millis" "J" (.long (0 : Int64))) (F1 : Fld Z h0 r0 "com/example/even_bucket/evenbucket/Admissions$Moment" "free" "I" (.int (0 : Int32))) (F2 : Fld Z h0 r0 "com/example/even_bucket/evenbucket/Admissions$Moment" "newest" "J" (.long (0 : Int64))) (F3 : Fld Z h0 r0 "com/example/even_bucket/evenbucket/Admissions$Moment" "refusal" "Lcom/example/even_bucket/evenbucket/Decision;" .null) (E1 : Exa Z h0 r0 "com/example/even_bucket/evenbucket/Admissions$Moment") (g1 : n0 ≤ r0) :
    MetFree l (⟨"com/example/even_bucket/evenbucket/Admissions$Moment", "<init>", "(JIJLcom/example/even_bucket/evenbucket/Decision;)V"⟩ : MethodName) (head1 (Jvm.Cond.code (⟨"com/example/even_bucket/evenbucket/Admissions$Moment", "<init>", "(JIJLcom/example/even_bucket/evenbucket/Decision;)V"⟩ : MethodName) prog_12_method_1_code 7 none :: ws) ({ frames := 2, cells := 0, slots := 0, locals := 24 } : Room)) (fun a U => a = #[(.ref r0), (.long q1), (.int p2), (.long q3), (.ref r4)] ∧ Z.Warmed39 U.vm ∧ U.heap = h0) (fun _ _ _ _ _ => True) (fun _ U o U' => ∃ v L, o = .returned v ∧ Q24 Z r0 q1 p2 q3 r4 h0 n0 v U'.heap L ∧ FrameEnd U o U' L ({ frames := 2, cells := 0, slots := 0, locals := 24 } : Room).cells ({ frames := 2, cells := 0, slots := 0, locals := 24 } : Room).slots) := by
  refine MetFree.of_bodySF (plainFor_of_name pn_Admissions_Moment) hisR ?_
  intro p e s m args below meth c s₁ Bd hml0 hP hK
  obtain ⟨rfl, hZ, hh⟩ := hP
  have hx := Bd.exec
  have hby := Bd.bytes
  have hml : c.maxLocals = 7 := hml0
  have hown : s.vm.findClass "com/example/even_bucket/evenbucket/Admissions$Moment" = some m.cls := findClass_of_methodNamed Bd.named
  have hnm := (name_of_methodNamed Bd.named Bd.method).1
  have X0 : Stand p l e ({ frames := 2, cells := 0, slots := 0, locals := 24 } : Room) s m #[(.ref r0), (.long q1), (.int p2), (.long q3), (.ref r4)] below meth c s₁ [] 0 0 := Stand.of_body Bd
  have e0 : s₁.heap = h0 := by rw [← hh, Bd.state]; rfl
  have N0 := Fr.nil n0
  have pre0 : ∀ t, Steps p.tables e below (s₁.setTop (mkF m 0 #[.val (.ref r0), .val (.long q1), .second, .val (.int p2), .val (.long q3), .second, .val (.ref r4)] [])) t → Steps p.tables e below (s₁.setTop (entryFrame m #[(.ref r0), (.long q1), (.int p2), (.long q3), (.ref r4)] 7)) t := fun t k => castTop (ef24 m r0 q1 p2 q3 r4) k
  obtain ⟨_, _, ⟨T207, L207, k207, n207⟩, -, X207, ⟨Lc207, hQ207, l207, y207, z207⟩, st207⟩ := X0.specialBack hx (y := (⟨"java/lang/Record", "<init>", "()V"⟩ : MethodName)) rfl hown (mvT hZ (hw _ (List.mem_of_getElem? (i := 149) rfl))) (mvT hZ (hw _ (List.mem_of_getElem? (i := 150) rfl))) (mvT hZ (hw _ (List.mem_of_getElem? (i := 153) rfl))) (by decide) (backOf (W := 0) (rm25 l Z a0 hw [] r0 h0 n0 Z0 ) hZ (hw _ (List.mem_of_getElem? (i := 153) rfl)) (hw _ (List.mem_of_getElem? (i := 152) rfl)) (by decide) (by decide)) (g := (mkF m 1 #[.val (.ref r0), .val (.long q1), .second, .val (.int p2), .val (.long q3), .second, .val (.ref r4)] [(.ref r0)])) rfl (by rw [hml]; rfl) (Steps.refl _) (a := r0) (argsL := []) (rest := []) (lenOf pd___V rfl) rfl (by show 2 * 0 + _ ≤ _; exact Nat.le_of_eq rfl) (hb hby d24_1) (fun _ _ => ⟨rfl, e0, (by decide : 0 + 0 ≤ _), (by decide : 0 + 0 ≤ _)⟩)
  dsimp only [Pt.U, Pt.locs, Pt.cells, Pt.slots] at X207 l207 y207 z207 st207 hQ207
  subst l207 y207 z207
  obtain ⟨rfl, Nq207, e207⟩ := hQ207
  have N207 := Fr.app N0 Nq207
  obtain ⟨T208, h208, X208, e208, W208, st208⟩ := putF X207 hx hZ hown (host := "") (Or.inl (hw _ (List.mem_of_getElem? (i := 155) rfl))) Via.refl e207 F0 E1 (Or.inr ⟨(hw _ (List.mem_of_getElem? (i := 156) rfl)), rfl, hnm⟩) (hw _ (List.mem_of_getElem? (i := 86) rfl)) (ty := .long) (by decide) rfl rfl (g := (mkF m 6 #[.val (.ref r0), .val (.long q1), .second, .val (.int p2), .val (.long q3), .second, .val (.ref r4)] [(.long q1), (.ref r0)])) rfl rfl (hb hby d24_6)
  have K209 : Keep h0 h208 [r0] := (Keep.refl h0 [r0]).wr W208 (Or.inl (List.mem_of_getElem? (i := 0) rfl))
  have c210 : Fld Z h208 r0 "com/example/even_bucket/evenbucket/Admissions$Moment" "millis" "J" (.long q1) := F0.same W208
  have N211 := Fr.snoc X208 N207 g1
  have c212 : Exa Z h208 r0 "com/example/even_bucket/evenbucket/Admissions$Moment" := (E1.wr W208)
  have c213 : Fld Z h208 r0 "com/example/even_bucket/evenbucket/Admissions$Moment" "free" "I" (.int (0 : Int32)) := (F1.other W208 (Or.inr (slot_ne (Or.inr (hw _ (List.mem_of_getElem? (i := 158) rfl))) (Or.inr (hw _ (List.mem_of_getElem? (i := 156) rfl))) (by decide) (t := .int) (t' := .long) (by decide) (by decide))))
  obtain ⟨T214, h214, X214, e214, W214, st214⟩ := putF X208 hx hZ hown (host := "") (Or.inl (hw _ (List.mem_of_getElem? (i := 157) rfl))) Via.refl e208 c213 c212 (Or.inr ⟨(hw _ (List.mem_of_getElem? (i := 158) rfl)), rfl, hnm⟩) (hw _ (List.mem_of_getElem? (i := 86) rfl)) (ty := .int) (by decide) rfl rfl (g := (mkF m 11 #[.val (.ref r0), .val (.long q1), .second, .val (.int p2), .val (.long q3), .second, .val (.ref r4)] [(.int p2), (.ref r0)])) rfl rfl (hb hby d24_11)
  have K215 : Keep h0 h214 [r0] := K209.wr W214 (Or.inl (List.mem_of_getElem? (i := 0) rfl))
  have c216 : Fld Z h214 r0 "com/example/even_bucket/evenbucket/Admissions$Moment" "free" "I" (.int p2) := c213.same W214
  have N217 := Fr.snoc X214 N211 g1
  have c218 : Exa Z h214 r0 "com/example/even_bucket/evenbucket/Admissions$Moment" := (c212.wr W214)
  have c219 : Fld Z h214 r0 "com/example/even_bucket/evenbucket/Admissions$Moment" "newest" "J" (.long (0 : Int64)) := ((F2.other W208 (Or.inr (slot_ne (Or.inr (hw _ (List.mem_of_getElem? (i := 160) rfl))) (Or.inr (hw _ (List.mem_of_getElem? (i := 156) rfl))) (by decide) (t := .long) (t' := .long) (by decide) (by decide)))).other W214 (Or.inr (slot_ne (Or.inr (hw _ (List.mem_of_getElem? (i := 160) rfl))) (Or.inr (hw _ (List.mem_of_getElem? (i := 158) rfl))) (by decide) (t := .long) (t' := .int) (by decide) (by decide))))
  obtain ⟨T220, h220, X220, e220, W220, st220⟩ := putF X214 hx hZ hown (host := "") (Or.inl (hw _ (List.mem_of_getElem? (i := 159) rfl))) Via.refl e214 c219 c218 (Or.inr ⟨(hw _ (List.mem_of_getElem? (i := 160) rfl)), rfl, hnm⟩) (hw _ (List.mem_of_getElem? (i := 86) rfl)) (ty := .long) (by decide) rfl rfl (g := (mkF m 17 #[.val (.ref r0), .val (.long q1), .second, .val (.int p2), .val (.long q3), .second, .val (.ref r4)] [(.long q3), (.ref r0)])) rfl rfl (hb hby d24_17)
  have K221 : Keep h0 h220 [r0] := K215.wr W220 (Or.inl (List.mem_of_getElem? (i := 0) rfl))
  have c222 : Fld Z h220 r0 "com/example/even_bucket/evenbucket/Admissions$Moment" "newest" "J" (.long q3) := c219.same W220
  have N223 := Fr.snoc X220 N217 g1
  have c224 : Exa Z h220 r0 "com/example/even_bucket/evenbucket/Admissions$Moment" := (c218.wr W220)
  have c225 : Fld Z h220 r0 "com/example/even_bucket/evenbucket/Admissions$Moment" "refusal" "Lcom/example/even_bucket/evenbucket/Decision;" .null := (((F3.other W208 (Or.inr (slot_ne (Or.inr (hw _ (List.mem_of_getElem? (i := 162) rfl))) (Or.inr (hw _ (List.mem_of_getElem? (i := 156) rfl))) (by decide) (t := (.object "com/example/even_bucket/evenbucket/Decision")) (t' := .long) (by decide) (by decide)))).other W214 (Or.inr (slot_ne (Or.inr (hw _ (List.mem_of_getElem? (i := 162) rfl))) (Or.inr (hw _ (List.mem_of_getElem? (i := 158) rfl))) (by decide) (t := (.object "com/example/even_bucket/evenbucket/Decision")) (t' := .int) (by decide) (by decide)))).other W220 (Or.inr (slot_ne (Or.inr (hw _ (List.mem_of_getElem? (i := 162) rfl))) (Or.inr (hw _ (List.mem_of_getElem? (i := 160) rfl))) (by decide) (t := (.object "com/example/even_bucket/evenbucket/Decision")) (t' := .long) (by decide) (by decide))))
  obtain ⟨T226, h226, X226, e226, W226, st226⟩ := putF X220 hx hZ hown (host := "") (Or.inl (hw _ (List.mem_of_getElem? (i := 161) rfl))) Via.refl e220 c225 c224 (Or.inr ⟨(hw _ (List.mem_of_getElem? (i := 162) rfl)), rfl, hnm⟩) (hw _ (List.mem_of_getElem? (i := 86) rfl)) (ty := (.object "com/example/even_bucket/evenbucket/Decision")) (by decide) rfl rfl (g := (mkF m 23 #[.val (.ref r0), .val (.long q1), .second, .val (.int p2), .val (.long q3), .second, .val (.ref r4)] [(.ref r4), (.ref r0)])) rfl rfl (hb hby d24_23)
  have K227 : Keep h0 h226 [r0] := K221.wr W226 (Or.inl (List.mem_of_getElem? (i := 0) rfl))
  have c228 : Fld Z h226 r0 "com/example/even_bucket/evenbucket/Admissions$Moment" "refusal" "Lcom/example/even_bucket/evenbucket/Decision;" (.ref r4) := c225.same W226
  have N229 := Fr.snoc X226 N223 g1
  obtain ⟨fs, hrT, hrunT, hendT, hWT, hsameT⟩ := X226.leave (hlocks := BodyLoose.notSynchronized Bd) (v := none) (fun _ => rfl)
  refine ⟨_, _, pre0 _ ?_, hrunT, hendT, _, _, rfl, ?_, ⟨_, rfl⟩, hWT, hsameT.mono (by decide) (by decide)⟩
  · show Steps p.tables e below (s₁.setTop (mkF m 0 #[.val (.ref r0), .val (.long q1), .second, .val (.int p2), .val (.long q3), .second, .val (.ref r4)] [])) _
    refine XS.aloadN X0.here hx rfl (hb hby d24_0) rfl rfl ?_
    show Steps p.tables e below (s₁.setTop (mkF m 1 #[.val (.ref r0), .val (.long q1), .second, .val (.int p2), .val (.long q3), .second, .val (.ref r4)] [(.ref r0)])) _
    refine st207.trans ?_
    show Steps p.tables e below (T207.setTop (mkF m 4 #[.val (.ref r0), .val (.long q1), .second, .val (.int p2), .val (.long q3), .second, .val (.ref r4)] [])) _
    refine XS.aloadN X207.here hx rfl (hb hby d24_4) rfl rfl ?_
    show Steps p.tables e below (T207.setTop (mkF m 5 #[.val (.ref r0), .val (.long q1), .second, .val (.int p2), .val (.long q3), .second, .val (.ref r4)] [(.ref r0)])) _
    refine XS.lloadN X207.here hx rfl (hb hby d24_5) rfl ?_
    show Steps p.tables e below (T207.setTop (mkF m 6 #[.val (.ref r0), .val (.long q1), .second, .val (.int p2), .val (.long q3), .second, .val (.ref r4)] [(.long q1), (.ref r0)])) _
    refine st208 _ ?_
    show Steps p.tables e below (T208.setTop (mkF m 9 #[.val (.ref r0), .val (.long q1), .second, .val (.int p2), .val (.long q3), .second, .val (.ref r4)] [])) _
    refine XS.aloadN X208.here hx rfl (hb hby d24_9) rfl rfl ?_
    show Steps p.tables e below (T208.setTop (mkF m 10 #[.val (.ref r0), .val (.long q1), .second, .val (.int p2), .val (.long q3), .second, .val (.ref r4)] [(.ref r0)])) _
    refine XS.iloadN X208.here hx rfl (hb hby d24_10) rfl ?_
    show Steps p.tables e below (T208.setTop (mkF m 11 #[.val (.ref r0), .val (.long q1), .second, .val (.int p2), .val (.long q3), .second, .val (.ref r4)] [(.int p2), (.ref r0)])) _
    refine st214 _ ?_
    show Steps p.tables e below (T214.setTop (mkF m 14 #[.val (.ref r0), .val (.long q1), .second, .val (.int p2), .val (.long q3), .second, .val (.ref r4)] [])) _
    refine XS.aloadN X214.here hx rfl (hb hby d24_14) rfl rfl ?_
    show Steps p.tables e below (T214.setTop (mkF m 15 #[.val (.ref r0), .val (.long q1), .second, .val (.int p2), .val (.long q3), .second, .val (.ref r4)] [(.ref r0)])) _
    refine XS.lload X214.here hx rfl (hb hby d24_15) rfl ?_
    show Steps p.tables e below (T214.setTop (mkF m 17 #[.val (.ref r0), .val (.long q1), .second, .val (.int p2), .val (.long q3), .second, .val (.ref r4)] [(.long q3), (.ref r0)])) _
    refine st220 _ ?_
    show Steps p.tables e below (T220.setTop (mkF m 20 #[.val (.ref r0), .val (.long q1), .second, .val (.int p2), .val (.long q3), .second, .val (.ref r4)] [])) _
    refine XS.aloadN X220.here hx rfl (hb hby d24_20) rfl rfl ?_
    show Steps p.tables e below (T220.setTop (mkF m 21 #[.val (.ref r0), .val (.long q1), .second, .val (.int p2), .val (.long q3), .second, .val (.ref r4)] [(.ref r0)])) _
    refine XS.aload X220.here hx rfl (hb hby d24_21) rfl rfl ?_
    show Steps p.tables e below (T220.setTop (mkF m 23 #[.val (.ref r0), .val (.long q1), .second, .val (.int p2), .val (.long q3), .second, .val (.ref r4)] [(.ref r4), (.ref r0)])) _
    refine st226 _ ?_
    show Steps p.tables e below (T226.setTop (mkF m 26 #[.val (.ref r0), .val (.long q1), .second, .val (.int p2), .val (.long q3), .second, .val (.ref r4)] [])) _
    exact X226.returnOut hx Bd.returns (hb hby d24_26) hrT
  · show Q24 Z r0 q1 p2 q3 r4 h0 n0 _ T226.heap _
    rw [e226]
    have c230 : Fld Z h226 r0 "com/example/even_bucket/evenbucket/Admissions$Moment" "millis" "J" (.long q1) := (((c210.other W214 (Or.inr (slot_ne (Or.inr (hw _ (List.mem_of_getElem? (i := 156) rfl))) (Or.inr (hw _ (List.mem_of_getElem? (i := 158) rfl))) (by decide) (t := .long) (t' := .int) (by decide) (by decide)))).other W220 (Or.inr (slot_ne (Or.inr (hw _ (List.mem_of_getElem? (i := 156) rfl))) (Or.inr (hw _ (List.mem_of_getElem? (i := 160) rfl))) (by decide) (t := .long) (t' := .long) (by decide) (by decide)))).other W226 (Or.inr (slot_ne (Or.inr (hw _ (List.mem_of_getElem? (i := 156) rfl))) (Or.inr (hw _ (List.mem_of_getElem? (i := 162) rfl))) (by decide) (t := .long) (t' := (.object "com/example/even_bucket/evenbucket/Decision")) (by decide) (by decide))))
    have c231 : Fld Z h226 r0 "com/example/even_bucket/evenbucket/Admissions$Moment" "free" "I" (.int p2) := ((c216.other W220 (Or.inr (slot_ne (Or.inr (hw _ (List.mem_of_getElem? (i := 158) rfl))) (Or.inr (hw _ (List.mem_of_getElem? (i := 160) rfl))) (by decide) (t := .int) (t' := .long) (by decide) (by decide)))).other W226 (Or.inr (slot_ne (Or.inr (hw _ (List.mem_of_getElem? (i := 158) rfl))) (Or.inr (hw _ (List.mem_of_getElem? (i := 162) rfl))) (by decide) (t := .int) (t' := (.object "com/example/even_bucket/evenbucket/Decision")) (by decide) (by decide))))
    have c232 : Fld Z h226 r0 "com/example/even_bucket/evenbucket/Admissions$Moment" "newest" "J" (.long q3) := (c222.other W226 (Or.inr (slot_ne (Or.inr (hw _ (List.mem_of_getElem? (i := 160) rfl))) (Or.inr (hw _ (List.mem_of_getElem? (i := 162) rfl))) (by decide) (t := .long) (t' := (.object "com/example/even_bucket/evenbucket/Decision")) (by decide) (by decide))))
    exact ⟨rfl, N229, K227, c230, c231, c232, c228⟩
theorem d13_0 : decode prog_26_method_6_code 0 = .ok (.aload_n 0, 1) := by decide +kernel
theorem d13_1 : decode prog_26_method_6_code 1 = .ok (.aload_n 0, 1) := by decide +kernel
theorem d13_2 : decode prog_26_method_6_code 2 = .ok (.getfield 39, 3) := by decide +kernel
theorem d13_5 : decode prog_26_method_6_code 5 = .ok (.invokevirtual 42, 3) := by decide +kernel
theorem d13_8 : decode prog_26_method_6_code 8 = .ok (.lstore_n 1, 1) := by decide +kernel
theorem d13_9 : decode prog_26_method_6_code 9 = .ok (.aload_n 0, 1) := by decide +kernel
theorem d13_10 : decode prog_26_method_6_code 10 = .ok (.lload_n 1, 1) := by decide +kernel
theorem d13_11 : decode prog_26_method_6_code 11 = .ok (.invokevirtual 53, 3) := by decide +kernel
theorem d13_14 : decode prog_26_method_6_code 14 = .ok (.istore_n 3, 1) := by decide +kernel
theorem d13_15 : decode prog_26_method_6_code 15 = .ok (.new 62, 3) := by decide +kernel
theorem d13_18 : decode prog_26_method_6_code 18 = .ok (.dup, 1) := by decide +kernel
theorem d13_19 : decode prog_26_method_6_code 19 = .ok (.aload_n 0, 1) := by decide +kernel
theorem d13_20 : decode prog_26_method_6_code 20 = .ok (.getfield 39, 3) := by decide +kernel
theorem d13_23 : decode prog_26_method_6_code 23 = .ok (.iload_n 3, 1) := by decide +kernel
theorem d13_24 : decode prog_26_method_6_code 24 = .ok (.aload_n 0, 1) := by decide +kernel
theorem d13_25 : decode prog_26_method_6_code 25 = .ok (.getfield 31, 3) := by decide +kernel
theorem d13_28 : decode prog_26_method_6_code 28 = .ok (.aload_n 0, 1) := by decide +kernel
theorem d13_29 : decode prog_26_method_6_code 29 = .ok (.lload_n 1, 1) := by decide +kernel
theorem d13_30 : decode prog_26_method_6_code 30 = .ok (.iload_n 3, 1) := by decide +kernel
theorem d13_31 : decode prog_26_method_6_code 31 = .ok (.i2l, 1) := by decide +kernel
theorem d13_32 : decode prog_26_method_6_code 32 = .ok (.aload_n 0, 1) := by decide +kernel
theorem d13_33 : decode prog_26_method_6_code 33 = .ok (.getfield 17, 3) := by decide +kernel
theorem d13_36 : decode prog_26_method_6_code 36 = .ok (.lmul, 1) := by decide +kernel
theorem d13_37 : decode prog_26_method_6_code 37 = .ok (.ladd, 1) := by decide +kernel
theorem d13_38 : decode prog_26_method_6_code 38 = .ok (.invokevirtual 46, 3) := by decide +kernel
theorem pd__JIJLcom_example_even_bucket_evenbucket_Decision__V : parseMethodDescriptor "(JIJLcom/example/even_bucket/evenbucket/Decision;)V" = some ⟨[.long, .int, .long, (.object "com/example/even_bucket/evenbucket/Decision")], none⟩ := by decide +kernel
theorem d13_41 : decode prog_26_method_6_code 41 = .ok (.invokespecial 64, 3) := by decide +kernel
theorem d13_44 : decode prog_26_method_6_code 44 = .ok (.areturn, 1) := by decide +kernel
theorem ef13 (m : MethodId) (x0 : Addr) : entryFrame m #[(.ref x0)] 4 = mkF m 0 #[.val (.ref x0), .unset, .unset, .unset] [] := by first | (simp [entryFrame, mkF, argsToLocals, Value.category]; done) | rfl
def Q13 (Z : State) (r0 : Addr) (uc : Int32) (um : Int64) (up : Int64) (us : Int64) (ud : Int64) (un : Int64) (ua : Int32) (ut : Int64) (h0 : Heap) (n0 : Nat) (v : Option Value) (h : Heap) (L : List Loc) : Prop := ∃ bb : Addr, v = some (.ref bb) ∧ Fr n0 L ∧ Keep h0 h [] ∧ h0.size ≤ bb ∧ Exa Z h bb "com/example/even_bucket/evenbucket/Admissions$Moment" ∧ Fld Z h bb "com/example/even_bucket/evenbucket/Admissions$Moment" "millis" "J" (.long ut) ∧ Fld Z h bb "com/example/even_bucket/evenbucket/Admissions$Moment" "free" "I" (.int (uc - ((f_dru ud up).toInt32))) ∧ Fld Z h bb "com/example/even_bucket/evenbucket/Admissions$Moment" "newest" "J" (.long un)
set_option maxRecDepth 65536 in
set_option maxHeartbeats 40000000 in
theorem rm13 (l : Launch) (Z : State) (a0 : Array Value) (hw : ∀ d ∈ tables_1, d.before a0 Z = true) (ws : List Jvm.Cond) (r0 : Addr) (uc : Int32) (um : Int64) (up : Int64) (us : Int64) (ud : Int64) (un : Int64) (ua : Int32) (ut : Int64) (h0 : Heap) (n0 : Nat) (Z0 : n0 ≤ h0.size) (F0 : Fld Z h0 r0 "com/example/even_bucket/evenbucket/GreedyBucket" "capacity" "I" (.int uc)) (F1 : Fld Z h0 r0 "com/example/even_bucket/evenbucket/GreedyBucket" "unitsPerMilli" "J" (.long um)) (F2 : Fld Z h0 r0 "com/example/even_bucket/evenbucket/GreedyBucket" "unitsPerPermit" "J" (.long up)) (F3 : Fld Z h0 r0 "com/example/even_bucket/evenbucket/GreedyBucket" "mostDeficitWithAPermit" "J" (.long us)) (F4 : Fld Z h0 r0 "com/example/even_bucket/evenbucket/GreedyBucket" "deficit" "J" (.long ud)) (F5 : Fld Z h0 r0 "com/example/even_bucket/evenbucket/GreedyBucket" "newest" "J" (.long un)) (F6 : Fld Z h0 r0 "com/example/even_bucket/evenbucket/GreedyBucket" "admitted" "Z" (.int ua)) (F7 : Fld Z h0 r0 "com/example/even_bucket/evenbucket/GreedyBucket" "decidedAt" "J" (.long ut)) (E1 : Exa Z h0 r0 "com/example/even_bucket/evenbucket/GreedyBucket") (hm : ¬ um = 0) (hp : ¬ up = 0) (hd : f_da ut un ud um = ud) (hxx : 1 ≤ (f_dru ((ud + (((uc - ((f_dru ud up).toInt32)).toInt64) * up)) - us) um).toInt) :
    MetFree l (⟨"com/example/even_bucket/evenbucket/GreedyBucket", "moment", "()Lcom/example/even_bucket/evenbucket/Admissions$Moment;"⟩ : MethodName) (head1 (Jvm.Cond.code (⟨"com/example/even_bucket/evenbucket/GreedyBucket", "moment", "()Lcom/example/even_bucket/evenbucket/Admissions$Moment;"⟩ : MethodName) prog_26_method_6_code 4 (some (.object "com/example/even_bucket/evenbucket/Admissions$Moment")) :: ws) ({ frames := 7, cells := 6, slots := 55, locals := 111 } : Room)) (fun a U => a = #[(.ref r0)] ∧ Z.Warmed39 U.vm ∧ U.heap = h0) (fun _ _ _ _ _ => True) (fun _ U o U' => ∃ v L, o = .returned v ∧ Q13 Z r0 uc um up us ud un ua ut h0 n0 v U'.heap L ∧ ReturnedEndW U o U' L ({ frames := 7, cells := 6, slots := 55, locals := 111 } : Room).cells ({ frames := 7, cells := 6, slots := 55, locals := 111 } : Room).slots) := by
  refine MetFree.of_bodySF (plainFor_of_name pn_GreedyBucket) hisR ?_
  intro p e s m args below meth c s₁ Bd hml0 hP hK
  obtain ⟨rfl, hZ, hh⟩ := hP
  have hx := Bd.exec
  have hby := Bd.bytes
  have hml : c.maxLocals = 4 := hml0
  have hown : s.vm.findClass "com/example/even_bucket/evenbucket/GreedyBucket" = some m.cls := findClass_of_methodNamed Bd.named
  have hnm := (name_of_methodNamed Bd.named Bd.method).1
  have X0 : Stand p l e ({ frames := 7, cells := 6, slots := 55, locals := 111 } : Room) s m #[(.ref r0)] below meth c s₁ [] 0 0 := Stand.of_body Bd
  have e0 : s₁.heap = h0 := by rw [← hh, Bd.state]; rfl
  have N0 := Fr.nil n0
  have pre0 : ∀ t, Steps p.tables e below (s₁.setTop (mkF m 0 #[.val (.ref r0), .unset, .unset, .unset] [])) t → Steps p.tables e below (s₁.setTop (entryFrame m #[(.ref r0)] 4)) t := fun t k => castTop (ef13 m r0) k
  obtain ⟨T233, X233, e233, st233⟩ := getF X0 hx hZ hown (host := "") (Or.inl (hw _ (List.mem_of_getElem? (i := 32) rfl))) Via.refl e0 F7 (g := (mkF m 2 #[.val (.ref r0), .unset, .unset, .unset] [(.ref r0), (.ref r0)])) rfl rfl (hb hby d13_2)
  obtain ⟨cq234, q234, q234'⟩ := E1.cell
  obtain ⟨_, _, ⟨T234, L234, k234, n234⟩, -, X234, ⟨Lc234, hQ234, l234, y234, z234⟩, st234⟩ := X233.privateBack hx (y := (⟨"com/example/even_bucket/evenbucket/GreedyBucket", "deficitAt", "(J)J"⟩ : MethodName)) hown (mvT hZ (hw _ (List.mem_of_getElem? (i := 34) rfl))) (mvT hZ (hw _ (List.mem_of_getElem? (i := 35) rfl))) (Jvm.Kit.selects_private (by decide) (mvT hZ (hw _ (List.mem_of_getElem? (i := 9) rfl))) (mvP hZ (hw _ (List.mem_of_getElem? (i := 36) rfl))) (mvT hZ (hw _ (List.mem_of_getElem? (i := 35) rfl)))) (Cond.privateMethod_at (mvP hZ (hw _ (List.mem_of_getElem? (i := 36) rfl)) (args := #[]))) (mvT hZ (hw _ (List.mem_of_getElem? (i := 37) rfl))) (by decide) (backOf (W := 0) (rm5 l Z a0 hw [] r0 ut um ud un h0 n0 Z0 F1 F4 F5 hm) hZ (hw _ (List.mem_of_getElem? (i := 37) rfl)) (hw _ (List.mem_of_getElem? (i := 10) rfl)) (by decide) (by decide)) (g := (mkF m 5 #[.val (.ref r0), .unset, .unset, .unset] [(.long ut), (.ref r0)])) rfl (by rw [hml]; rfl) (Steps.refl _) (a := r0) (by rw [e233]; exact q234) q234' (argsL := [(.long ut)]) (rest := []) (lenOf pd__J_J rfl) rfl (by show 2 * 0 + _ ≤ _; exact Nat.le_of_eq rfl) (hb hby d13_5) (fun _ _ => ⟨rfl, e233, (by decide : 0 + 0 ≤ _), (by decide : 0 + 0 ≤ _)⟩)
  dsimp only [Pt.U, Pt.locs, Pt.cells, Pt.slots] at X234 l234 y234 z234 st234 hQ234
  subst l234 y234 z234
  obtain ⟨rfl, Nq234, e234⟩ := hQ234
  have N234 := Fr.app N0 Nq234
  have S235 : ∀ t, Steps p.tables e below (T234.setTop (mkF m 9 #[.val (.ref r0), .val (.long (f_da ut un ud um)), .second, .unset] [])) t → Steps p.tables e below (s₁.setTop (entryFrame m #[(.ref r0)] 4)) t := by
    intro t kt
    refine pre0 _ ?_
    show Steps p.tables e below (s₁.setTop (mkF m 0 #[.val (.ref r0), .unset, .unset, .unset] [])) _
    refine XS.aloadN X0.here hx rfl (hb hby d13_0) rfl rfl ?_
    show Steps p.tables e below (s₁.setTop (mkF m 1 #[.val (.ref r0), .unset, .unset, .unset] [(.ref r0)])) _
    refine XS.aloadN X0.here hx rfl (hb hby d13_1) rfl rfl ?_
    show Steps p.tables e below (s₁.setTop (mkF m 2 #[.val (.ref r0), .unset, .unset, .unset] [(.ref r0), (.ref r0)])) _
    refine st233 _ ?_
    show Steps p.tables e below (T233.setTop (mkF m 5 #[.val (.ref r0), .unset, .unset, .unset] [(.long ut), (.ref r0)])) _
    refine st234.trans ?_
    show Steps p.tables e below (T234.setTop (mkF m 8 #[.val (.ref r0), .unset, .unset, .unset] [(.long (f_da ut un ud um))])) _
    refine XS.lstoreN X234.here hx rfl (hb hby d13_8) rfl (l' := #[.val (.ref r0), .val (.long (f_da ut un ud um)), .second, .unset]) rfl ?_
    exact kt
  rw [(hd : (f_da ut un ud um) = ud)] at S235
  obtain ⟨cq236, q236, q236'⟩ := E1.cell
  obtain ⟨_, _, ⟨T236, L236, k236, n236⟩, -, X236, ⟨Lc236, hQ236, l236, y236, z236⟩, st236⟩ := X234.privateBack hx (y := (⟨"com/example/even_bucket/evenbucket/GreedyBucket", "freeWith", "(J)I"⟩ : MethodName)) hown (mvT hZ (hw _ (List.mem_of_getElem? (i := 53) rfl))) (mvT hZ (hw _ (List.mem_of_getElem? (i := 54) rfl))) (Jvm.Kit.selects_private (by decide) (mvT hZ (hw _ (List.mem_of_getElem? (i := 9) rfl))) (mvP hZ (hw _ (List.mem_of_getElem? (i := 55) rfl))) (mvT hZ (hw _ (List.mem_of_getElem? (i := 54) rfl)))) (Cond.privateMethod_at (mvP hZ (hw _ (List.mem_of_getElem? (i := 55) rfl)) (args := #[]))) (mvT hZ (hw _ (List.mem_of_getElem? (i := 56) rfl))) (by decide) (backOf (W := 0) (rm9 l Z a0 hw [] r0 ud uc up h0 n0 Z0 F0 F2 hp) hZ (hw _ (List.mem_of_getElem? (i := 56) rfl)) (hw _ (List.mem_of_getElem? (i := 10) rfl)) (by decide) (by decide)) (g := (mkF m 11 #[.val (.ref r0), .val (.long ud), .second, .unset] [(.long ud), (.ref r0)])) rfl (by rw [hml]; rfl) (Steps.refl _) (a := r0) (by rw [e234]; exact q236) q236' (argsL := [(.long ud)]) (rest := []) (lenOf pd__J_I rfl) rfl (by show 2 * 0 + _ ≤ _; exact Nat.le_of_eq rfl) (hb hby d13_11) (fun _ _ => ⟨rfl, e234, (by decide : 0 + 0 ≤ _), (by decide : 0 + 0 ≤ _)⟩)
  dsimp only [Pt.U, Pt.locs, Pt.cells, Pt.slots] at X236 l236 y236 z236 st236 hQ236
  subst l236 y236 z236
  obtain ⟨rfl, Nq236, e236⟩ := hQ236
  have N236 := Fr.app N234 Nq236
  obtain ⟨T237, h237, X237, e237, E237, A237, D237, -, st237⟩ := newO X236 hx hZ hown (hw _ (List.mem_of_getElem? (i := 85) rfl)) (hw _ (List.mem_of_getElem? (i := 86) rfl)) (hw _ (List.mem_of_getElem? (i := 87) rfl)) e236 (g := (mkF m 15 #[.val (.ref r0), .val (.long ud), .second, .val (.int (uc - ((f_dru ud up).toInt32)))] [])) rfl (hb hby d13_15) (by decide) (by decide)
  obtain ⟨b237, g237⟩ : ∃ z, z = h0.size := ⟨_, rfl⟩
  rw [← g237] at A237 D237 st237
  have ge_b237 : n0 ≤ b237 := Nat.le_trans Z0 (Nat.le_of_eq g237.symm)
  have sz_b237 : h0.size ≤ b237 := Nat.le_of_eq g237.symm
  have K238 : Keep h0 h237 [] := (Keep.refl h0 []).ext E237
  have F239 : Fld Z h237 b237 "com/example/even_bucket/evenbucket/Admissions$Moment" "millis" "J" (.long (0 : Int64)) := D237 (Or.inr (hw _ (List.mem_of_getElem? (i := 156) rfl))) (ty := .long) (by decide)
  have F240 : Fld Z h237 b237 "com/example/even_bucket/evenbucket/Admissions$Moment" "free" "I" (.int (0 : Int32)) := D237 (Or.inr (hw _ (List.mem_of_getElem? (i := 158) rfl))) (ty := .int) (by decide)
  have F241 : Fld Z h237 b237 "com/example/even_bucket/evenbucket/Admissions$Moment" "newest" "J" (.long (0 : Int64)) := D237 (Or.inr (hw _ (List.mem_of_getElem? (i := 160) rfl))) (ty := .long) (by decide)
  have F242 : Fld Z h237 b237 "com/example/even_bucket/evenbucket/Admissions$Moment" "refusal" "Lcom/example/even_bucket/evenbucket/Decision;" .null := D237 (Or.inr (hw _ (List.mem_of_getElem? (i := 162) rfl))) (ty := (.object "com/example/even_bucket/evenbucket/Decision")) (by decide)
  have c243 : Fld Z h237 r0 "com/example/even_bucket/evenbucket/GreedyBucket" "decidedAt" "J" (.long ut) := (F7.ext E237)
  obtain ⟨T244, X244, e244, st244⟩ := getF X237 hx hZ hown (host := "") (Or.inl (hw _ (List.mem_of_getElem? (i := 32) rfl))) Via.refl e237 c243 (g := (mkF m 20 #[.val (.ref r0), .val (.long ud), .second, .val (.int (uc - ((f_dru ud up).toInt32)))] [(.ref r0), (.ref b237), (.ref b237)])) rfl rfl (hb hby d13_20)
  have c245 : Fld Z h237 r0 "com/example/even_bucket/evenbucket/GreedyBucket" "newest" "J" (.long un) := (F5.ext E237)
  obtain ⟨T246, X246, e246, st246⟩ := getF X244 hx hZ hown (host := "") (Or.inl (hw _ (List.mem_of_getElem? (i := 38) rfl))) Via.refl e244 c245 (g := (mkF m 25 #[.val (.ref r0), .val (.long ud), .second, .val (.int (uc - ((f_dru ud up).toInt32)))] [(.ref r0), (.int (uc - ((f_dru ud up).toInt32))), (.long ut), (.ref b237), (.ref b237)])) rfl rfl (hb hby d13_25)
  have c247 : Fld Z h237 r0 "com/example/even_bucket/evenbucket/GreedyBucket" "unitsPerPermit" "J" (.long up) := (F2.ext E237)
  obtain ⟨T248, X248, e248, st248⟩ := getF X246 hx hZ hown (host := "") (Or.inl (hw _ (List.mem_of_getElem? (i := 21) rfl))) Via.refl e246 c247 (g := (mkF m 33 #[.val (.ref r0), .val (.long ud), .second, .val (.int (uc - ((f_dru ud up).toInt32)))] [(.ref r0), (.long ((uc - ((f_dru ud up).toInt32)).toInt64)), (.long ud), (.ref r0), (.long un), (.int (uc - ((f_dru ud up).toInt32))), (.long ut), (.ref b237), (.ref b237)])) rfl rfl (hb hby d13_33)
  have c250 : Fld Z h237 r0 "com/example/even_bucket/evenbucket/GreedyBucket" "unitsPerMilli" "J" (.long um) := (F1.ext E237)
  have c251 : Fld Z h237 r0 "com/example/even_bucket/evenbucket/GreedyBucket" "mostDeficitWithAPermit" "J" (.long us) := (F3.ext E237)
  have c252 : Exa Z h237 r0 "com/example/even_bucket/evenbucket/GreedyBucket" := (E1.ext E237)
  obtain ⟨cq249, q249, q249'⟩ := c252.cell
  obtain ⟨_, _, ⟨T249, L249, k249, n249⟩, -, X249, hS249, gr249, ⟨Lc249, hQ249, l249, y249, z249⟩, st249⟩ := X248.privateBackS hx (y := (⟨"com/example/even_bucket/evenbucket/GreedyBucket", "refusal", "(J)Lcom/example/even_bucket/evenbucket/Decision;"⟩ : MethodName)) hown (mvT hZ (hw _ (List.mem_of_getElem? (i := 88) rfl))) (mvT hZ (hw _ (List.mem_of_getElem? (i := 89) rfl))) (Jvm.Kit.selects_private (by decide) (mvT hZ (hw _ (List.mem_of_getElem? (i := 9) rfl))) (mvP hZ (hw _ (List.mem_of_getElem? (i := 90) rfl))) (mvT hZ (hw _ (List.mem_of_getElem? (i := 89) rfl)))) (Cond.privateMethod_at (mvP hZ (hw _ (List.mem_of_getElem? (i := 90) rfl)) (args := #[]))) (mvT hZ (hw _ (List.mem_of_getElem? (i := 91) rfl))) (by decide) (backOfS (W := 7) (rm14 l Z a0 hw [] r0 (ud + (((uc - ((f_dru ud up).toInt32)).toInt64) * up)) um us h237 n0 (Nat.le_trans Z0 K238.1) c250 c251 hm hxx) hZ (hw _ (List.mem_of_getElem? (i := 91) rfl)) (hw _ (List.mem_of_getElem? (i := 10) rfl)) (by decide) (by decide)) (g := (mkF m 38 #[.val (.ref r0), .val (.long ud), .second, .val (.int (uc - ((f_dru ud up).toInt32)))] [(.long (ud + (((uc - ((f_dru ud up).toInt32)).toInt64) * up))), (.ref r0), (.long un), (.int (uc - ((f_dru ud up).toInt32))), (.long ut), (.ref b237), (.ref b237)])) rfl (by rw [hml]; rfl) (Steps.refl _) (a := r0) (by rw [e248]; exact q249) q249' (argsL := [(.long (ud + (((uc - ((f_dru ud up).toInt32)).toInt64) * up)))]) (rest := [(.long un), (.int (uc - ((f_dru ud up).toInt32))), (.long ut), (.ref b237), (.ref b237)]) (lenOf pd__J_Lcom_example_even_bucket_evenbucket_Decision_ rfl) rfl (by show 2 * 0 + _ ≤ _; exact Nat.le_of_eq rfl) (hb hby d13_38) (fun _ _ => ⟨rfl, e248, (by decide : 1 + 5 ≤ _), (by decide : 4 + 51 ≤ _)⟩)
  dsimp only [Pt.U, Pt.locs, Pt.cells, Pt.slots] at X249 l249 y249 z249 st249 hQ249
  subst l249 y249 z249
  dsimp only [Pt.U, Pt.locs, Pt.cells, Pt.slots] at hS249 gr249
  obtain ⟨bb_249, rfl, Nq249, Kq249, f249_0, f249_1⟩ := hQ249
  have K253 : Keep h0 T249.heap [] := K238.trans Kq249 (fun x hx => by simp at hx)
  have N249 := Fr.app N236 Nq249
  have hZ249 : Z.Warmed39 (s.setVm T249.vm).vm := State.Warmed39.trans (t := s) hZ hS249.1
  have hown249 : (s.setVm T249.vm).vm.findClass "com/example/even_bucket/evenbucket/GreedyBucket" = some m.cls := (hS249.1.alike.findClass _ _).trans hown
  have ge_bb_249 : n0 ≤ bb_249 := Nat.le_trans (Nat.le_trans Z0 K238.1) f249_0
  have sz_bb_249 : h0.size ≤ bb_249 := Nat.le_trans K238.1 f249_0
  have c255 : Fld Z T249.heap b237 "com/example/even_bucket/evenbucket/Admissions$Moment" "millis" "J" (.long (0 : Int64)) := (F239.keep Kq249 List.not_mem_nil)
  have c256 : Fld Z T249.heap b237 "com/example/even_bucket/evenbucket/Admissions$Moment" "free" "I" (.int (0 : Int32)) := (F240.keep Kq249 List.not_mem_nil)
  have c257 : Fld Z T249.heap b237 "com/example/even_bucket/evenbucket/Admissions$Moment" "newest" "J" (.long (0 : Int64)) := (F241.keep Kq249 List.not_mem_nil)
  have c258 : Fld Z T249.heap b237 "com/example/even_bucket/evenbucket/Admissions$Moment" "refusal" "Lcom/example/even_bucket/evenbucket/Decision;" .null := (F242.keep Kq249 List.not_mem_nil)
  have c259 : Exa Z T249.heap b237 "com/example/even_bucket/evenbucket/Admissions$Moment" := (A237.keep Kq249)
  obtain ⟨_, _, ⟨T254, L254, k254, n254⟩, -, X254, ⟨Lc254, hQ254, l254, y254, z254⟩, st254⟩ := X249.specialBack hx (y := (⟨"com/example/even_bucket/evenbucket/Admissions$Moment", "<init>", "(JIJLcom/example/even_bucket/evenbucket/Decision;)V"⟩ : MethodName)) rfl hown249 (mvT hZ249 (hw _ (List.mem_of_getElem? (i := 146) rfl))) (mvT hZ249 (hw _ (List.mem_of_getElem? (i := 147) rfl))) (mvT hZ249 (hw _ (List.mem_of_getElem? (i := 148) rfl))) (by decide) (backOf (W := 1) (rm24 l Z a0 hw [] b237 ut (uc - ((f_dru ud up).toInt32)) un bb_249 T249.heap n0 (Nat.le_trans Z0 K253.1) c255 c256 c257 c258 c259 ge_b237) hZ249 (hw _ (List.mem_of_getElem? (i := 148) rfl)) (hw _ (List.mem_of_getElem? (i := 87) rfl)) (by decide) (by decide)) (g := (mkF m 41 #[.val (.ref r0), .val (.long ud), .second, .val (.int (uc - ((f_dru ud up).toInt32)))] [(.ref bb_249), (.long un), (.int (uc - ((f_dru ud up).toInt32))), (.long ut), (.ref b237), (.ref b237)])) rfl (by rw [hml]; rfl) (Steps.refl _) (a := b237) (argsL := [(.long ut), (.int (uc - ((f_dru ud up).toInt32))), (.long un), (.ref bb_249)]) (rest := [(.ref b237)]) (lenOf pd__JIJLcom_example_even_bucket_evenbucket_Decision__V rfl) rfl (by show 2 * 0 + _ ≤ _; exact Nat.le_of_eq rfl) (hb hby d13_41) (fun _ _ => ⟨rfl, rfl, (by decide : 6 + 0 ≤ _), (by decide : 55 + 0 ≤ _)⟩)
  dsimp only [Pt.U, Pt.locs, Pt.cells, Pt.slots] at X254 l254 y254 z254 st254 hQ254
  subst l254 y254 z254
  obtain ⟨rfl, Nq254, Kq254, f254_0, f254_1, f254_2, f254_3⟩ := hQ254
  have K260 : Keep h0 T254.heap [] := K253.trans Kq254 (fun x hx => by cases List.mem_singleton.mp hx; exact Or.inr sz_b237)
  have hk261 : T249.heap.size ≤ T254.heap.size := Nat.le_trans (Nat.le_refl _) Kq254.1
  have N254 := Fr.app N249 Nq254
  obtain ⟨fs, hrT, hrunT, hendT, hRW⟩ := X254.leaveW (hlocks := BodyLoose.notSynchronized Bd) hS249 (v := some (.ref b237)) hk261 (fun h => by rw [Bd.returns] at h; cases h)
  refine ⟨_, _, S235 _ ?_, hrunT, hendT, _, _, rfl, ?_, hRW.1, hRW.2.1, hRW.2.2.1, hRW.2.2.2.mono (by decide) (by decide)⟩
  · show Steps p.tables e below (T234.setTop (mkF m 9 #[.val (.ref r0), .val (.long ud), .second, .unset] [])) _
    refine XS.aloadN X234.here hx rfl (hb hby d13_9) rfl rfl ?_
    show Steps p.tables e below (T234.setTop (mkF m 10 #[.val (.ref r0), .val (.long ud), .second, .unset] [(.ref r0)])) _
    refine XS.lloadN X234.here hx rfl (hb hby d13_10) rfl ?_
    show Steps p.tables e below (T234.setTop (mkF m 11 #[.val (.ref r0), .val (.long ud), .second, .unset] [(.long ud), (.ref r0)])) _
    refine st236.trans ?_
    show Steps p.tables e below (T236.setTop (mkF m 14 #[.val (.ref r0), .val (.long ud), .second, .unset] [(.int (uc - ((f_dru ud up).toInt32)))])) _
    refine XS.istoreN X236.here hx rfl (hb hby d13_14) rfl (l' := #[.val (.ref r0), .val (.long ud), .second, .val (.int (uc - ((f_dru ud up).toInt32)))]) rfl ?_
    show Steps p.tables e below (T236.setTop (mkF m 15 #[.val (.ref r0), .val (.long ud), .second, .val (.int (uc - ((f_dru ud up).toInt32)))] [])) _
    refine st237 _ ?_
    show Steps p.tables e below (T237.setTop (mkF m 18 #[.val (.ref r0), .val (.long ud), .second, .val (.int (uc - ((f_dru ud up).toInt32)))] [(.ref b237)])) _
    refine XS.dup X237.here hx rfl (hb hby d13_18) rfl rfl ?_
    show Steps p.tables e below (T237.setTop (mkF m 19 #[.val (.ref r0), .val (.long ud), .second, .val (.int (uc - ((f_dru ud up).toInt32)))] [(.ref b237), (.ref b237)])) _
    refine XS.aloadN X237.here hx rfl (hb hby d13_19) rfl rfl ?_
    show Steps p.tables e below (T237.setTop (mkF m 20 #[.val (.ref r0), .val (.long ud), .second, .val (.int (uc - ((f_dru ud up).toInt32)))] [(.ref r0), (.ref b237), (.ref b237)])) _
    refine st244 _ ?_
    show Steps p.tables e below (T244.setTop (mkF m 23 #[.val (.ref r0), .val (.long ud), .second, .val (.int (uc - ((f_dru ud up).toInt32)))] [(.long ut), (.ref b237), (.ref b237)])) _
    refine XS.iloadN X244.here hx rfl (hb hby d13_23) rfl ?_
    show Steps p.tables e below (T244.setTop (mkF m 24 #[.val (.ref r0), .val (.long ud), .second, .val (.int (uc - ((f_dru ud up).toInt32)))] [(.int (uc - ((f_dru ud up).toInt32))), (.long ut), (.ref b237), (.ref b237)])) _
    refine XS.aloadN X244.here hx rfl (hb hby d13_24) rfl rfl ?_
    show Steps p.tables e below (T244.setTop (mkF m 25 #[.val (.ref r0), .val (.long ud), .second, .val (.int (uc - ((f_dru ud up).toInt32)))] [(.ref r0), (.int (uc - ((f_dru ud up).toInt32))), (.long ut), (.ref b237), (.ref b237)])) _
    refine st246 _ ?_
    show Steps p.tables e below (T246.setTop (mkF m 28 #[.val (.ref r0), .val (.long ud), .second, .val (.int (uc - ((f_dru ud up).toInt32)))] [(.long un), (.int (uc - ((f_dru ud up).toInt32))), (.long ut), (.ref b237), (.ref b237)])) _
    refine XS.aloadN X246.here hx rfl (hb hby d13_28) rfl rfl ?_
    show Steps p.tables e below (T246.setTop (mkF m 29 #[.val (.ref r0), .val (.long ud), .second, .val (.int (uc - ((f_dru ud up).toInt32)))] [(.ref r0), (.long un), (.int (uc - ((f_dru ud up).toInt32))), (.long ut), (.ref b237), (.ref b237)])) _
    refine XS.lloadN X246.here hx rfl (hb hby d13_29) rfl ?_
    show Steps p.tables e below (T246.setTop (mkF m 30 #[.val (.ref r0), .val (.long ud), .second, .val (.int (uc - ((f_dru ud up).toInt32)))] [(.long ud), (.ref r0), (.long un), (.int (uc - ((f_dru ud up).toInt32))), (.long ut), (.ref b237), (.ref b237)])) _
    refine XS.iloadN X246.here hx rfl (hb hby d13_30) rfl ?_
    show Steps p.tables e below (T246.setTop (mkF m 31 #[.val (.ref r0), .val (.long ud), .second, .val (.int (uc - ((f_dru ud up).toInt32)))] [(.int (uc - ((f_dru ud up).toInt32))), (.long ud), (.ref r0), (.long un), (.int (uc - ((f_dru ud up).toInt32))), (.long ut), (.ref b237), (.ref b237)])) _
    refine XS.i2l X246.here hx rfl (hb hby d13_31) rfl ?_
    show Steps p.tables e below (T246.setTop (mkF m 32 #[.val (.ref r0), .val (.long ud), .second, .val (.int (uc - ((f_dru ud up).toInt32)))] [(.long ((uc - ((f_dru ud up).toInt32)).toInt64)), (.long ud), (.ref r0), (.long un), (.int (uc - ((f_dru ud up).toInt32))), (.long ut), (.ref b237), (.ref b237)])) _
    refine XS.aloadN X246.here hx rfl (hb hby d13_32) rfl rfl ?_
    show Steps p.tables e below (T246.setTop (mkF m 33 #[.val (.ref r0), .val (.long ud), .second, .val (.int (uc - ((f_dru ud up).toInt32)))] [(.ref r0), (.long ((uc - ((f_dru ud up).toInt32)).toInt64)), (.long ud), (.ref r0), (.long un), (.int (uc - ((f_dru ud up).toInt32))), (.long ut), (.ref b237), (.ref b237)])) _
    refine st248 _ ?_
    show Steps p.tables e below (T248.setTop (mkF m 36 #[.val (.ref r0), .val (.long ud), .second, .val (.int (uc - ((f_dru ud up).toInt32)))] [(.long up), (.long ((uc - ((f_dru ud up).toInt32)).toInt64)), (.long ud), (.ref r0), (.long un), (.int (uc - ((f_dru ud up).toInt32))), (.long ut), (.ref b237), (.ref b237)])) _
    refine XS.lmul X248.here hx rfl (hb hby d13_36) rfl ?_
    show Steps p.tables e below (T248.setTop (mkF m 37 #[.val (.ref r0), .val (.long ud), .second, .val (.int (uc - ((f_dru ud up).toInt32)))] [(.long (((uc - ((f_dru ud up).toInt32)).toInt64) * up)), (.long ud), (.ref r0), (.long un), (.int (uc - ((f_dru ud up).toInt32))), (.long ut), (.ref b237), (.ref b237)])) _
    refine XS.ladd X248.here hx rfl (hb hby d13_37) rfl ?_
    show Steps p.tables e below (T248.setTop (mkF m 38 #[.val (.ref r0), .val (.long ud), .second, .val (.int (uc - ((f_dru ud up).toInt32)))] [(.long (ud + (((uc - ((f_dru ud up).toInt32)).toInt64) * up))), (.ref r0), (.long un), (.int (uc - ((f_dru ud up).toInt32))), (.long ut), (.ref b237), (.ref b237)])) _
    refine st249.trans ?_
    show Steps p.tables e below (T249.setTop (mkF m 41 #[.val (.ref r0), .val (.long ud), .second, .val (.int (uc - ((f_dru ud up).toInt32)))] [(.ref bb_249), (.long un), (.int (uc - ((f_dru ud up).toInt32))), (.long ut), (.ref b237), (.ref b237)])) _
    refine st254.trans ?_
    show Steps p.tables e below (T254.setTop (mkF m 44 #[.val (.ref r0), .val (.long ud), .second, .val (.int (uc - ((f_dru ud up).toInt32)))] [(.ref b237)])) _
    exact retOut X254 hx Bd.returns rfl (by right; right; right; right; exact ⟨rfl, rfl, rfl⟩) (hb hby d13_44) hrT
  · show Q13 Z r0 uc um up us ud un ua ut h0 n0 _ T254.heap _
    have c262 : Exa Z T254.heap b237 "com/example/even_bucket/evenbucket/Admissions$Moment" := (c259.keep Kq254)
    exact ⟨b237, rfl, N254, K260, sz_b237, c262, f254_0, f254_1, f254_2⟩
theorem d27_0 : decode prog_11_method_6_code 0 = .ok (.lload_n 0, 1) := by decide +kernel
theorem d27_1 : decode prog_11_method_6_code 1 = .ok (.ldc2_w 3, 3) := by decide +kernel
theorem d27_4 : decode prog_11_method_6_code 4 = .ok (.lload_n 2, 1) := by decide +kernel
theorem d27_5 : decode prog_11_method_6_code 5 = .ok (.lsub, 1) := by decide +kernel
theorem d27_6 : decode prog_11_method_6_code 6 = .ok (.lcmp, 1) := by decide +kernel
theorem d27_7 : decode prog_11_method_6_code 7 = .ok (.ifCond .le 9, 3) := by decide +kernel
theorem d27_10 : decode prog_11_method_6_code 10 = .ok (.ldc2_w 3, 3) := by decide +kernel
theorem d27_13 : decode prog_11_method_6_code 13 = .ok (.goto 6, 3) := by decide +kernel
theorem d27_19 : decode prog_11_method_6_code 19 = .ok (.lreturn, 1) := by decide +kernel
theorem d27_16 : decode prog_11_method_6_code 16 = .ok (.lload_n 0, 1) := by decide +kernel
theorem d27_17 : decode prog_11_method_6_code 17 = .ok (.lload_n 2, 1) := by decide +kernel
theorem d27_18 : decode prog_11_method_6_code 18 = .ok (.ladd, 1) := by decide +kernel
theorem pn_Admissions : plainName "com/example/even_bucket/evenbucket/Admissions" = true := by first | (simp [plainName, overriddenIn]; done) | decide +kernel
def f_later (q0 : Int64) (q1 : Int64) : Int64 := (if ((9223372036854775807 : Int64) - q1) < q0 then (9223372036854775807 : Int64) else (q0 + q1))
theorem ef27 (m : MethodId) (x0 : Int64) (x1 : Int64) : entryFrame m #[(.long x0), (.long x1)] 4 = mkF m 0 #[.val (.long x0), .second, .val (.long x1), .second] [] := by first | (simp [entryFrame, mkF, argsToLocals, Value.category]; done) | rfl
def Q27 (Z : State) (q0 : Int64) (q1 : Int64) (h0 : Heap) (n0 : Nat) (v : Option Value) (h : Heap) (L : List Loc) : Prop := v = some (.long (f_later q0 q1)) ∧ Fr n0 L ∧ h = h0
set_option maxRecDepth 65536 in
set_option maxHeartbeats 40000000 in
theorem rm27 (l : Launch) (Z : State) (a0 : Array Value) (hw : ∀ d ∈ tables_1, d.before a0 Z = true) (ws : List Jvm.Cond) (q0 : Int64) (q1 : Int64) (h0 : Heap) (n0 : Nat) (Z0 : n0 ≤ h0.size) :
    MetFree l (⟨"com/example/even_bucket/evenbucket/Admissions", "later", "(JJ)J"⟩ : MethodName) (head1 (Jvm.Cond.code (⟨"com/example/even_bucket/evenbucket/Admissions", "later", "(JJ)J"⟩ : MethodName) prog_11_method_6_code 4 (some .long) :: ws) ({ frames := 0, cells := 0, slots := 0, locals := 0 } : Room)) (fun a U => a = #[(.long q0), (.long q1)] ∧ Z.Warmed39 U.vm ∧ U.heap = h0) (fun _ _ _ _ _ => True) (fun _ U o U' => ∃ v L, o = .returned v ∧ Q27 Z q0 q1 h0 n0 v U'.heap L ∧ FrameEnd U o U' L ({ frames := 0, cells := 0, slots := 0, locals := 0 } : Room).cells ({ frames := 0, cells := 0, slots := 0, locals := 0 } : Room).slots) := by
  refine MetFree.of_bodySF (plainFor_of_name pn_Admissions) hisR ?_
  intro p e s m args below meth c s₁ Bd hml0 hP hK
  obtain ⟨rfl, hZ, hh⟩ := hP
  have hx := Bd.exec
  have hby := Bd.bytes
  have hml : c.maxLocals = 4 := hml0
  have hown : s.vm.findClass "com/example/even_bucket/evenbucket/Admissions" = some m.cls := findClass_of_methodNamed Bd.named
  have hnm := (name_of_methodNamed Bd.named Bd.method).1
  have X0 : Stand p l e ({ frames := 0, cells := 0, slots := 0, locals := 0 } : Room) s m #[(.long q0), (.long q1)] below meth c s₁ [] 0 0 := Stand.of_body Bd
  have e0 : s₁.heap = h0 := by rw [← hh, Bd.state]; rfl
  have N0 := Fr.nil n0
  have pre0 : ∀ t, Steps p.tables e below (s₁.setTop (mkF m 0 #[.val (.long q0), .second, .val (.long q1), .second] [])) t → Steps p.tables e below (s₁.setTop (entryFrame m #[(.long q0), (.long q1)] 4)) t := fun t k => castTop (ef27 m q0 q1) k
  have S263 : ∀ t, Steps p.tables e below (s₁.setTop (mkF m 7 #[.val (.long q0), .second, .val (.long q1), .second] [(.int (XT.cmpL q0 ((9223372036854775807 : Int64) - q1)))])) t → Steps p.tables e below (s₁.setTop (entryFrame m #[(.long q0), (.long q1)] 4)) t := by
    intro t kt
    refine pre0 _ ?_
    show Steps p.tables e below (s₁.setTop (mkF m 0 #[.val (.long q0), .second, .val (.long q1), .second] [])) _
    refine XS.lloadN X0.here hx rfl (hb hby d27_0) rfl ?_
    show Steps p.tables e below (s₁.setTop (mkF m 1 #[.val (.long q0), .second, .val (.long q1), .second] [(.long q0)])) _
    refine X0.ldc2Long hx hown (mvT hZ (hw _ (List.mem_of_getElem? (i := 172) rfl))) (g := (mkF m 1 #[.val (.long q0), .second, .val (.long q1), .second] [(.long q0)])) rfl (hb hby d27_1) _ ?_
    show Steps p.tables e below (s₁.setTop (mkF m 4 #[.val (.long q0), .second, .val (.long q1), .second] [(.long (9223372036854775807 : Int64)), (.long q0)])) _
    refine XS.lloadN X0.here hx rfl (hb hby d27_4) rfl ?_
    show Steps p.tables e below (s₁.setTop (mkF m 5 #[.val (.long q0), .second, .val (.long q1), .second] [(.long q1), (.long (9223372036854775807 : Int64)), (.long q0)])) _
    refine XS.lsub X0.here hx rfl (hb hby d27_5) rfl ?_
    show Steps p.tables e below (s₁.setTop (mkF m 6 #[.val (.long q0), .second, .val (.long q1), .second] [(.long ((9223372036854775807 : Int64) - q1)), (.long q0)])) _
    refine XT.lcmp X0.here hx rfl (hb hby d27_6) rfl ?_
    exact kt
  by_cases hc7_264 : ((9223372036854775807 : Int64) - q1) < q0
  case pos =>
    obtain ⟨fs, hrT, hrunT, hendT, hWT, hsameT⟩ := X0.leave (hlocks := BodyLoose.notSynchronized Bd) (v := some (.long (9223372036854775807 : Int64))) (fun h => by rw [Bd.returns] at h; cases h)
    refine ⟨_, _, S263 _ ?_, hrunT, hendT, _, _, rfl, ?_, ⟨_, rfl⟩, hWT, hsameT.mono (by decide) (by decide)⟩
    · show Steps p.tables e below (s₁.setTop (mkF m 7 #[.val (.long q0), .second, .val (.long q1), .second] [(.int (XT.cmpL q0 ((9223372036854775807 : Int64) - q1)))])) _
      refine XS.ifNo X0.here hx rfl (hb hby d27_7) rfl (XT.ll_le_f hc7_264) ?_
      show Steps p.tables e below (s₁.setTop (mkF m 10 #[.val (.long q0), .second, .val (.long q1), .second] [])) _
      refine X0.ldc2Long hx hown (mvT hZ (hw _ (List.mem_of_getElem? (i := 172) rfl))) (g := (mkF m 10 #[.val (.long q0), .second, .val (.long q1), .second] [])) rfl (hb hby d27_10) _ ?_
      show Steps p.tables e below (s₁.setTop (mkF m 13 #[.val (.long q0), .second, .val (.long q1), .second] [(.long (9223372036854775807 : Int64))])) _
      refine XS.goto X0.here hx rfl (pc0 := 13) (pc' := 19) rfl (hb hby d27_13) (by decide) (by decide) ?_
      show Steps p.tables e below (s₁.setTop (mkF m 19 #[.val (.long q0), .second, .val (.long q1), .second] [(.long (9223372036854775807 : Int64))])) _
      exact retOut X0 hx Bd.returns rfl (by right; left; exact ⟨rfl, rfl, _, rfl⟩) (hb hby d27_19) hrT
    · show Q27 Z q0 q1 h0 n0 _ s₁.heap _
      rw [e0]
      have hv : f_later q0 q1 = (9223372036854775807 : Int64) := by unfold f_later; rw [if_pos hc7_264]
      exact ⟨(congrArg (fun z => some (Value.long z)) hv.symm), N0, rfl⟩
  case neg =>
    obtain ⟨fs, hrT, hrunT, hendT, hWT, hsameT⟩ := X0.leave (hlocks := BodyLoose.notSynchronized Bd) (v := some (.long (q0 + q1))) (fun h => by rw [Bd.returns] at h; cases h)
    refine ⟨_, _, S263 _ ?_, hrunT, hendT, _, _, rfl, ?_, ⟨_, rfl⟩, hWT, hsameT.mono (by decide) (by decide)⟩
    · show Steps p.tables e below (s₁.setTop (mkF m 7 #[.val (.long q0), .second, .val (.long q1), .second] [(.int (XT.cmpL q0 ((9223372036854775807 : Int64) - q1)))])) _
      refine XS.ifYes X0.here hx rfl (pc0 := 7) (pc' := 16) rfl (hb hby d27_7) rfl (XT.ll_le_t hc7_264) (by decide) (by decide) ?_
      show Steps p.tables e below (s₁.setTop (mkF m 16 #[.val (.long q0), .second, .val (.long q1), .second] [])) _
      refine XS.lloadN X0.here hx rfl (hb hby d27_16) rfl ?_
      show Steps p.tables e below (s₁.setTop (mkF m 17 #[.val (.long q0), .second, .val (.long q1), .second] [(.long q0)])) _
      refine XS.lloadN X0.here hx rfl (hb hby d27_17) rfl ?_
      show Steps p.tables e below (s₁.setTop (mkF m 18 #[.val (.long q0), .second, .val (.long q1), .second] [(.long q1), (.long q0)])) _
      refine XS.ladd X0.here hx rfl (hb hby d27_18) rfl ?_
      show Steps p.tables e below (s₁.setTop (mkF m 19 #[.val (.long q0), .second, .val (.long q1), .second] [(.long (q0 + q1))])) _
      exact retOut X0 hx Bd.returns rfl (by right; left; exact ⟨rfl, rfl, _, rfl⟩) (hb hby d27_19) hrT
    · show Q27 Z q0 q1 h0 n0 _ s₁.heap _
      rw [e0]
      have hv : f_later q0 q1 = (q0 + q1) := by unfold f_later; rw [if_neg hc7_264]
      exact ⟨(congrArg (fun z => some (Value.long z)) hv.symm), N0, rfl⟩
theorem d26_0 : decode prog_26_method_8_code 0 = .ok (.aload_n 0, 1) := by decide +kernel
theorem d26_1 : decode prog_26_method_8_code 1 = .ok (.getfield 31, 3) := by decide +kernel
theorem d26_4 : decode prog_26_method_8_code 4 = .ok (.aload_n 0, 1) := by decide +kernel
theorem d26_5 : decode prog_26_method_8_code 5 = .ok (.getfield 50, 3) := by decide +kernel
theorem d26_8 : decode prog_26_method_8_code 8 = .ok (.aload_n 0, 1) := by decide +kernel
theorem d26_9 : decode prog_26_method_8_code 9 = .ok (.getfield 13, 3) := by decide +kernel
theorem d26_12 : decode prog_26_method_8_code 12 = .ok (.invokestatic 67, 3) := by decide +kernel
theorem d26_15 : decode prog_26_method_8_code 15 = .ok (.invokestatic 70, 3) := by decide +kernel
theorem d26_18 : decode prog_26_method_8_code 18 = .ok (.lreturn, 1) := by decide +kernel
theorem ef26 (m : MethodId) (x0 : Addr) : entryFrame m #[(.ref x0)] 1 = mkF m 0 #[.val (.ref x0)] [] := by first | (simp [entryFrame, mkF, argsToLocals, Value.category]; done) | rfl
def Q26 (Z : State) (r0 : Addr) (um : Int64) (ud : Int64) (un : Int64) (h0 : Heap) (n0 : Nat) (v : Option Value) (h : Heap) (L : List Loc) : Prop := v = some (.long (f_later un (f_dru ud um))) ∧ Fr n0 L ∧ h = h0
set_option maxRecDepth 65536 in
set_option maxHeartbeats 40000000 in
theorem rm26 (l : Launch) (Z : State) (a0 : Array Value) (hw : ∀ d ∈ tables_1, d.before a0 Z = true) (ws : List Jvm.Cond) (r0 : Addr) (um : Int64) (ud : Int64) (un : Int64) (h0 : Heap) (n0 : Nat) (Z0 : n0 ≤ h0.size) (F0 : Fld Z h0 r0 "com/example/even_bucket/evenbucket/GreedyBucket" "unitsPerMilli" "J" (.long um)) (F1 : Fld Z h0 r0 "com/example/even_bucket/evenbucket/GreedyBucket" "deficit" "J" (.long ud)) (F2 : Fld Z h0 r0 "com/example/even_bucket/evenbucket/GreedyBucket" "newest" "J" (.long un)) (hm : ¬ um = 0) :
    MetFree l (⟨"com/example/even_bucket/evenbucket/GreedyBucket", "idleAfter", "()J"⟩ : MethodName) (head1 (Jvm.Cond.code (⟨"com/example/even_bucket/evenbucket/GreedyBucket", "idleAfter", "()J"⟩ : MethodName) prog_26_method_8_code 1 (some .long) :: ws) ({ frames := 1, cells := 0, slots := 0, locals := 17 } : Room)) (fun a U => a = #[(.ref r0)] ∧ Z.Warmed39 U.vm ∧ U.heap = h0) (fun _ _ _ _ _ => True) (fun _ U o U' => ∃ v L, o = .returned v ∧ Q26 Z r0 um ud un h0 n0 v U'.heap L ∧ FrameEnd U o U' L ({ frames := 1, cells := 0, slots := 0, locals := 17 } : Room).cells ({ frames := 1, cells := 0, slots := 0, locals := 17 } : Room).slots) := by
  refine MetFree.of_bodySF (plainFor_of_name pn_GreedyBucket) hisR ?_
  intro p e s m args below meth c s₁ Bd hml0 hP hK
  obtain ⟨rfl, hZ, hh⟩ := hP
  have hx := Bd.exec
  have hby := Bd.bytes
  have hml : c.maxLocals = 1 := hml0
  have hown : s.vm.findClass "com/example/even_bucket/evenbucket/GreedyBucket" = some m.cls := findClass_of_methodNamed Bd.named
  have hnm := (name_of_methodNamed Bd.named Bd.method).1
  have X0 : Stand p l e ({ frames := 1, cells := 0, slots := 0, locals := 17 } : Room) s m #[(.ref r0)] below meth c s₁ [] 0 0 := Stand.of_body Bd
  have e0 : s₁.heap = h0 := by rw [← hh, Bd.state]; rfl
  have N0 := Fr.nil n0
  have pre0 : ∀ t, Steps p.tables e below (s₁.setTop (mkF m 0 #[.val (.ref r0)] [])) t → Steps p.tables e below (s₁.setTop (entryFrame m #[(.ref r0)] 1)) t := fun t k => castTop (ef26 m r0) k
  obtain ⟨T265, X265, e265, st265⟩ := getF X0 hx hZ hown (host := "") (Or.inl (hw _ (List.mem_of_getElem? (i := 38) rfl))) Via.refl e0 F2 (g := (mkF m 1 #[.val (.ref r0)] [(.ref r0)])) rfl rfl (hb hby d26_1)
  obtain ⟨T266, X266, e266, st266⟩ := getF X265 hx hZ hown (host := "") (Or.inl (hw _ (List.mem_of_getElem? (i := 40) rfl))) Via.refl e265 F1 (g := (mkF m 5 #[.val (.ref r0)] [(.ref r0), (.long un)])) rfl rfl (hb hby d26_5)
  obtain ⟨T267, X267, e267, st267⟩ := getF X266 hx hZ hown (host := "") (Or.inl (hw _ (List.mem_of_getElem? (i := 19) rfl))) Via.refl e266 F0 (g := (mkF m 9 #[.val (.ref r0)] [(.ref r0), (.long ud), (.long un)])) rfl rfl (hb hby d26_9)
  obtain ⟨_, _, ⟨T268, L268, k268, n268⟩, -, X268, ⟨Lc268, hQ268, l268, y268, z268⟩, st268⟩ := Jvm.LawKit.callS X267 hx (y := (⟨"com/example/even_bucket/evenbucket/GreedyBucket", "divideRoundingUp", "(JJ)J"⟩ : MethodName)) hown (mvT hZ (hw _ (List.mem_of_getElem? (i := 42) rfl))) (mvT hZ (hw _ (List.mem_of_getElem? (i := 43) rfl))) (mvT hZ (hw _ (List.mem_of_getElem? (i := 10) rfl))) (mvT hZ (hw _ (List.mem_of_getElem? (i := 44) rfl))) (by decide) (backOf (W := 2) (rm6 l Z a0 hw [] ud um h0 n0 Z0 hm) hZ (hw _ (List.mem_of_getElem? (i := 44) rfl)) (hw _ (List.mem_of_getElem? (i := 10) rfl)) (by decide) (by decide)) (g := (mkF m 12 #[.val (.ref r0)] [(.long um), (.long ud), (.long un)])) rfl (by rw [hml]; rfl) (argsL := [(.long ud), (.long um)]) (rest := [(.long un)]) (lenOf pd__JJ_J rfl) rfl (by show 2 * 0 + _ ≤ _; exact Nat.le_of_eq rfl) (hb hby d26_12) (fun _ _ => ⟨rfl, e267, (by decide : 0 + 0 ≤ _), (by decide : 0 + 0 ≤ _)⟩)
  dsimp only [Pt.U, Pt.locs, Pt.cells, Pt.slots] at X268 l268 y268 z268 st268 hQ268
  subst l268 y268 z268
  obtain ⟨rfl, Nq268, e268⟩ := hQ268
  have N268 := Fr.app N0 Nq268
  obtain ⟨_, _, ⟨T269, L269, k269, n269⟩, -, X269, ⟨Lc269, hQ269, l269, y269, z269⟩, st269⟩ := Jvm.LawKit.callS X268 hx (y := (⟨"com/example/even_bucket/evenbucket/Admissions", "later", "(JJ)J"⟩ : MethodName)) hown (mvT hZ (hw _ (List.mem_of_getElem? (i := 168) rfl))) (mvT hZ (hw _ (List.mem_of_getElem? (i := 169) rfl))) (mvT hZ (hw _ (List.mem_of_getElem? (i := 170) rfl))) (mvT hZ (hw _ (List.mem_of_getElem? (i := 171) rfl))) (by decide) (backOf (W := 0) (rm27 l Z a0 hw [] un (f_dru ud um) h0 n0 Z0 ) hZ (hw _ (List.mem_of_getElem? (i := 171) rfl)) (hw _ (List.mem_of_getElem? (i := 170) rfl)) (by decide) (by decide)) (g := (mkF m 15 #[.val (.ref r0)] [(.long (f_dru ud um)), (.long un)])) rfl (by rw [hml]; rfl) (argsL := [(.long un), (.long (f_dru ud um))]) (rest := []) (lenOf pd__JJ_J rfl) rfl (by show 2 * 0 + _ ≤ _; exact Nat.le_of_eq rfl) (hb hby d26_15) (fun _ _ => ⟨rfl, e268, (by decide : 0 + 0 ≤ _), (by decide : 0 + 0 ≤ _)⟩)
  dsimp only [Pt.U, Pt.locs, Pt.cells, Pt.slots] at X269 l269 y269 z269 st269 hQ269
  subst l269 y269 z269
  obtain ⟨rfl, Nq269, e269⟩ := hQ269
  have N269 := Fr.app N268 Nq269
  obtain ⟨fs, hrT, hrunT, hendT, hWT, hsameT⟩ := X269.leave (hlocks := BodyLoose.notSynchronized Bd) (v := some (.long (f_later un (f_dru ud um)))) (fun h => by rw [Bd.returns] at h; cases h)
  refine ⟨_, _, pre0 _ ?_, hrunT, hendT, _, _, rfl, ?_, ⟨_, rfl⟩, hWT, hsameT.mono (by decide) (by decide)⟩
  · show Steps p.tables e below (s₁.setTop (mkF m 0 #[.val (.ref r0)] [])) _
    refine XS.aloadN X0.here hx rfl (hb hby d26_0) rfl rfl ?_
    show Steps p.tables e below (s₁.setTop (mkF m 1 #[.val (.ref r0)] [(.ref r0)])) _
    refine st265 _ ?_
    show Steps p.tables e below (T265.setTop (mkF m 4 #[.val (.ref r0)] [(.long un)])) _
    refine XS.aloadN X265.here hx rfl (hb hby d26_4) rfl rfl ?_
    show Steps p.tables e below (T265.setTop (mkF m 5 #[.val (.ref r0)] [(.ref r0), (.long un)])) _
    refine st266 _ ?_
    show Steps p.tables e below (T266.setTop (mkF m 8 #[.val (.ref r0)] [(.long ud), (.long un)])) _
    refine XS.aloadN X266.here hx rfl (hb hby d26_8) rfl rfl ?_
    show Steps p.tables e below (T266.setTop (mkF m 9 #[.val (.ref r0)] [(.ref r0), (.long ud), (.long un)])) _
    refine st267 _ ?_
    show Steps p.tables e below (T267.setTop (mkF m 12 #[.val (.ref r0)] [(.long um), (.long ud), (.long un)])) _
    refine st268 _ ?_
    show Steps p.tables e below (T268.setTop (mkF m 15 #[.val (.ref r0)] [(.long (f_dru ud um)), (.long un)])) _
    refine st269 _ ?_
    show Steps p.tables e below (T269.setTop (mkF m 18 #[.val (.ref r0)] [(.long (f_later un (f_dru ud um)))])) _
    exact retOut X269 hx Bd.returns rfl (by right; left; exact ⟨rfl, rfl, _, rfl⟩) (hb hby d26_18) hrT
  · show Q26 Z r0 um ud un h0 n0 _ T269.heap _
    rw [e269]
    exact ⟨rfl, N269, rfl⟩
theorem d28_0 : decode prog_12_method_8_code 0 = .ok (.aload_n 0, 1) := by decide +kernel
theorem d28_1 : decode prog_12_method_8_code 1 = .ok (.getfield 13, 3) := by decide +kernel
theorem d28_4 : decode prog_12_method_8_code 4 = .ok (.ireturn, 1) := by decide +kernel
theorem ef28 (m : MethodId) (x0 : Addr) : entryFrame m #[(.ref x0)] 1 = mkF m 0 #[.val (.ref x0)] [] := by first | (simp [entryFrame, mkF, argsToLocals, Value.category]; done) | rfl
def Q28 (Z : State) (r0 : Addr) (u : Int32) (h0 : Heap) (n0 : Nat) (v : Option Value) (h : Heap) (L : List Loc) : Prop := v = some (.int u) ∧ Fr n0 L ∧ h = h0
set_option maxRecDepth 65536 in
set_option maxHeartbeats 40000000 in
theorem rm28 (l : Launch) (Z : State) (a0 : Array Value) (hw : ∀ d ∈ tables_1, d.before a0 Z = true) (ws : List Jvm.Cond) (r0 : Addr) (u : Int32) (h0 : Heap) (n0 : Nat) (Z0 : n0 ≤ h0.size) (F : Fld Z h0 r0 "com/example/even_bucket/evenbucket/Admissions$Moment" "free" "I" (.int u)) :
    MetFree l (⟨"com/example/even_bucket/evenbucket/Admissions$Moment", "free", "()I"⟩ : MethodName) (head1 (Jvm.Cond.code (⟨"com/example/even_bucket/evenbucket/Admissions$Moment", "free", "()I"⟩ : MethodName) prog_12_method_8_code 1 (some .int) :: ws) ({ frames := 0, cells := 0, slots := 0, locals := 0 } : Room)) (fun a U => a = #[(.ref r0)] ∧ Z.Warmed39 U.vm ∧ U.heap = h0) (fun _ _ _ _ _ => True) (fun _ U o U' => ∃ v L, o = .returned v ∧ Q28 Z r0 u h0 n0 v U'.heap L ∧ FrameEnd U o U' L ({ frames := 0, cells := 0, slots := 0, locals := 0 } : Room).cells ({ frames := 0, cells := 0, slots := 0, locals := 0 } : Room).slots) := by
  refine MetFree.of_bodySF (plainFor_of_name pn_Admissions_Moment) hisR ?_
  intro p e s m args below meth c s₁ Bd hml0 hP hK
  obtain ⟨rfl, hZ, hh⟩ := hP
  have hx := Bd.exec
  have hby := Bd.bytes
  have hml : c.maxLocals = 1 := hml0
  have hown : s.vm.findClass "com/example/even_bucket/evenbucket/Admissions$Moment" = some m.cls := findClass_of_methodNamed Bd.named
  have hnm := (name_of_methodNamed Bd.named Bd.method).1
  have X0 : Stand p l e ({ frames := 0, cells := 0, slots := 0, locals := 0 } : Room) s m #[(.ref r0)] below meth c s₁ [] 0 0 := Stand.of_body Bd
  have e0 : s₁.heap = h0 := by rw [← hh, Bd.state]; rfl
  have N0 := Fr.nil n0
  have pre0 : ∀ t, Steps p.tables e below (s₁.setTop (mkF m 0 #[.val (.ref r0)] [])) t → Steps p.tables e below (s₁.setTop (entryFrame m #[(.ref r0)] 1)) t := fun t k => castTop (ef28 m r0) k
  obtain ⟨T270, X270, e270, st270⟩ := getF X0 hx hZ hown (host := "") (Or.inl (hw _ (List.mem_of_getElem? (i := 157) rfl))) Via.refl e0 F (g := (mkF m 1 #[.val (.ref r0)] [(.ref r0)])) rfl rfl (hb hby d28_1)
  obtain ⟨fs, hrT, hrunT, hendT, hWT, hsameT⟩ := X270.leave (hlocks := BodyLoose.notSynchronized Bd) (v := some (.int u)) (fun h => by rw [Bd.returns] at h; cases h)
  refine ⟨_, _, pre0 _ ?_, hrunT, hendT, _, _, rfl, ?_, ⟨_, rfl⟩, hWT, hsameT.mono (by decide) (by decide)⟩
  · show Steps p.tables e below (s₁.setTop (mkF m 0 #[.val (.ref r0)] [])) _
    refine XS.aloadN X0.here hx rfl (hb hby d28_0) rfl rfl ?_
    show Steps p.tables e below (s₁.setTop (mkF m 1 #[.val (.ref r0)] [(.ref r0)])) _
    refine st270 _ ?_
    show Steps p.tables e below (T270.setTop (mkF m 4 #[.val (.ref r0)] [(.int u)])) _
    exact retI X270 hx Bd.returns (hb hby d28_4) hrT
  · show Q28 Z r0 u h0 n0 _ T270.heap _
    rw [e270]
    exact ⟨rfl, N0, rfl⟩
theorem d29_0 : decode prog_12_method_7_code 0 = .ok (.aload_n 0, 1) := by decide +kernel
theorem d29_1 : decode prog_12_method_7_code 1 = .ok (.getfield 7, 3) := by decide +kernel
theorem d29_4 : decode prog_12_method_7_code 4 = .ok (.lreturn, 1) := by decide +kernel
theorem ef29 (m : MethodId) (x0 : Addr) : entryFrame m #[(.ref x0)] 1 = mkF m 0 #[.val (.ref x0)] [] := by first | (simp [entryFrame, mkF, argsToLocals, Value.category]; done) | rfl
def Q29 (Z : State) (r0 : Addr) (u : Int64) (h0 : Heap) (n0 : Nat) (v : Option Value) (h : Heap) (L : List Loc) : Prop := v = some (.long u) ∧ Fr n0 L ∧ h = h0
set_option maxRecDepth 65536 in
set_option maxHeartbeats 40000000 in
theorem rm29 (l : Launch) (Z : State) (a0 : Array Value) (hw : ∀ d ∈ tables_1, d.before a0 Z = true) (ws : List Jvm.Cond) (r0 : Addr) (u : Int64) (h0 : Heap) (n0 : Nat) (Z0 : n0 ≤ h0.size) (F : Fld Z h0 r0 "com/example/even_bucket/evenbucket/Admissions$Moment" "millis" "J" (.long u)) :
    MetFree l (⟨"com/example/even_bucket/evenbucket/Admissions$Moment", "millis", "()J"⟩ : MethodName) (head1 (Jvm.Cond.code (⟨"com/example/even_bucket/evenbucket/Admissions$Moment", "millis", "()J"⟩ : MethodName) prog_12_method_7_code 1 (some .long) :: ws) ({ frames := 0, cells := 0, slots := 0, locals := 0 } : Room)) (fun a U => a = #[(.ref r0)] ∧ Z.Warmed39 U.vm ∧ U.heap = h0) (fun _ _ _ _ _ => True) (fun _ U o U' => ∃ v L, o = .returned v ∧ Q29 Z r0 u h0 n0 v U'.heap L ∧ FrameEnd U o U' L ({ frames := 0, cells := 0, slots := 0, locals := 0 } : Room).cells ({ frames := 0, cells := 0, slots := 0, locals := 0 } : Room).slots) := by
  refine MetFree.of_bodySF (plainFor_of_name pn_Admissions_Moment) hisR ?_
  intro p e s m args below meth c s₁ Bd hml0 hP hK
  obtain ⟨rfl, hZ, hh⟩ := hP
  have hx := Bd.exec
  have hby := Bd.bytes
  have hml : c.maxLocals = 1 := hml0
  have hown : s.vm.findClass "com/example/even_bucket/evenbucket/Admissions$Moment" = some m.cls := findClass_of_methodNamed Bd.named
  have hnm := (name_of_methodNamed Bd.named Bd.method).1
  have X0 : Stand p l e ({ frames := 0, cells := 0, slots := 0, locals := 0 } : Room) s m #[(.ref r0)] below meth c s₁ [] 0 0 := Stand.of_body Bd
  have e0 : s₁.heap = h0 := by rw [← hh, Bd.state]; rfl
  have N0 := Fr.nil n0
  have pre0 : ∀ t, Steps p.tables e below (s₁.setTop (mkF m 0 #[.val (.ref r0)] [])) t → Steps p.tables e below (s₁.setTop (entryFrame m #[(.ref r0)] 1)) t := fun t k => castTop (ef29 m r0) k
  obtain ⟨T271, X271, e271, st271⟩ := getF X0 hx hZ hown (host := "") (Or.inl (hw _ (List.mem_of_getElem? (i := 155) rfl))) Via.refl e0 F (g := (mkF m 1 #[.val (.ref r0)] [(.ref r0)])) rfl rfl (hb hby d29_1)
  obtain ⟨fs, hrT, hrunT, hendT, hWT, hsameT⟩ := X271.leave (hlocks := BodyLoose.notSynchronized Bd) (v := some (.long u)) (fun h => by rw [Bd.returns] at h; cases h)
  refine ⟨_, _, pre0 _ ?_, hrunT, hendT, _, _, rfl, ?_, ⟨_, rfl⟩, hWT, hsameT.mono (by decide) (by decide)⟩
  · show Steps p.tables e below (s₁.setTop (mkF m 0 #[.val (.ref r0)] [])) _
    refine XS.aloadN X0.here hx rfl (hb hby d29_0) rfl rfl ?_
    show Steps p.tables e below (s₁.setTop (mkF m 1 #[.val (.ref r0)] [(.ref r0)])) _
    refine st271 _ ?_
    show Steps p.tables e below (T271.setTop (mkF m 4 #[.val (.ref r0)] [(.long u)])) _
    exact retOut X271 hx Bd.returns rfl (by right; left; exact ⟨rfl, rfl, _, rfl⟩) (hb hby d29_4) hrT
  · show Q29 Z r0 u h0 n0 _ T271.heap _
    rw [e271]
    exact ⟨rfl, N0, rfl⟩
theorem d30_0 : decode prog_12_method_9_code 0 = .ok (.aload_n 0, 1) := by decide +kernel
theorem d30_1 : decode prog_12_method_9_code 1 = .ok (.getfield 17, 3) := by decide +kernel
theorem d30_4 : decode prog_12_method_9_code 4 = .ok (.lreturn, 1) := by decide +kernel
theorem ef30 (m : MethodId) (x0 : Addr) : entryFrame m #[(.ref x0)] 1 = mkF m 0 #[.val (.ref x0)] [] := by first | (simp [entryFrame, mkF, argsToLocals, Value.category]; done) | rfl
def Q30 (Z : State) (r0 : Addr) (u : Int64) (h0 : Heap) (n0 : Nat) (v : Option Value) (h : Heap) (L : List Loc) : Prop := v = some (.long u) ∧ Fr n0 L ∧ h = h0
set_option maxRecDepth 65536 in
set_option maxHeartbeats 40000000 in
theorem rm30 (l : Launch) (Z : State) (a0 : Array Value) (hw : ∀ d ∈ tables_1, d.before a0 Z = true) (ws : List Jvm.Cond) (r0 : Addr) (u : Int64) (h0 : Heap) (n0 : Nat) (Z0 : n0 ≤ h0.size) (F : Fld Z h0 r0 "com/example/even_bucket/evenbucket/Admissions$Moment" "newest" "J" (.long u)) :
    MetFree l (⟨"com/example/even_bucket/evenbucket/Admissions$Moment", "newest", "()J"⟩ : MethodName) (head1 (Jvm.Cond.code (⟨"com/example/even_bucket/evenbucket/Admissions$Moment", "newest", "()J"⟩ : MethodName) prog_12_method_9_code 1 (some .long) :: ws) ({ frames := 0, cells := 0, slots := 0, locals := 0 } : Room)) (fun a U => a = #[(.ref r0)] ∧ Z.Warmed39 U.vm ∧ U.heap = h0) (fun _ _ _ _ _ => True) (fun _ U o U' => ∃ v L, o = .returned v ∧ Q30 Z r0 u h0 n0 v U'.heap L ∧ FrameEnd U o U' L ({ frames := 0, cells := 0, slots := 0, locals := 0 } : Room).cells ({ frames := 0, cells := 0, slots := 0, locals := 0 } : Room).slots) := by
  refine MetFree.of_bodySF (plainFor_of_name pn_Admissions_Moment) hisR ?_
  intro p e s m args below meth c s₁ Bd hml0 hP hK
  obtain ⟨rfl, hZ, hh⟩ := hP
  have hx := Bd.exec
  have hby := Bd.bytes
  have hml : c.maxLocals = 1 := hml0
  have hown : s.vm.findClass "com/example/even_bucket/evenbucket/Admissions$Moment" = some m.cls := findClass_of_methodNamed Bd.named
  have hnm := (name_of_methodNamed Bd.named Bd.method).1
  have X0 : Stand p l e ({ frames := 0, cells := 0, slots := 0, locals := 0 } : Room) s m #[(.ref r0)] below meth c s₁ [] 0 0 := Stand.of_body Bd
  have e0 : s₁.heap = h0 := by rw [← hh, Bd.state]; rfl
  have N0 := Fr.nil n0
  have pre0 : ∀ t, Steps p.tables e below (s₁.setTop (mkF m 0 #[.val (.ref r0)] [])) t → Steps p.tables e below (s₁.setTop (entryFrame m #[(.ref r0)] 1)) t := fun t k => castTop (ef30 m r0) k
  obtain ⟨T272, X272, e272, st272⟩ := getF X0 hx hZ hown (host := "") (Or.inl (hw _ (List.mem_of_getElem? (i := 159) rfl))) Via.refl e0 F (g := (mkF m 1 #[.val (.ref r0)] [(.ref r0)])) rfl rfl (hb hby d30_1)
  obtain ⟨fs, hrT, hrunT, hendT, hWT, hsameT⟩ := X272.leave (hlocks := BodyLoose.notSynchronized Bd) (v := some (.long u)) (fun h => by rw [Bd.returns] at h; cases h)
  refine ⟨_, _, pre0 _ ?_, hrunT, hendT, _, _, rfl, ?_, ⟨_, rfl⟩, hWT, hsameT.mono (by decide) (by decide)⟩
  · show Steps p.tables e below (s₁.setTop (mkF m 0 #[.val (.ref r0)] [])) _
    refine XS.aloadN X0.here hx rfl (hb hby d30_0) rfl rfl ?_
    show Steps p.tables e below (s₁.setTop (mkF m 1 #[.val (.ref r0)] [(.ref r0)])) _
    refine st272 _ ?_
    show Steps p.tables e below (T272.setTop (mkF m 4 #[.val (.ref r0)] [(.long u)])) _
    exact retOut X272 hx Bd.returns rfl (by right; left; exact ⟨rfl, rfl, _, rfl⟩) (hb hby d30_4) hrT
  · show Q30 Z r0 u h0 n0 _ T272.heap _
    rw [e272]
    exact ⟨rfl, N0, rfl⟩
theorem own_cc {p cc : Int32} (h : cc = (f_max (1 : Int32) (p &&& (2147483647 : Int32)))) : 1 ≤ cc.toInt := by
  subst h
  unfold f_max
  split
  · rename_i q; rw [Int32.lt_iff_toInt_lt, show (1 : Int32).toInt = 1 from rfl] at q; omega
  · decide
theorem own_ne {y : Int32} (h : 1 ≤ y.toInt) : y ≠ 0 := fun e => by rw [e] at h; exact absurd h (by decide)
theorem own_neL {y : Int32} (h : 1 ≤ y.toInt) : (y.toInt64) ≠ 0 := fun e => by have := congrArg Int64.toInt e; rw [Jvm.Kit.i64_of_i32, show (0 : Int64).toInt = 0 from rfl] at this; omega
theorem own_q {y : Int32} (h : 1 ≤ y.toInt) : ((4503599627370496 : Int64) / (y.toInt64)).toInt = 4503599627370496 / y.toInt ∧ 2097152 ≤ 4503599627370496 / y.toInt := by
  have k : (4503599627370496 : Int64).toInt = 4503599627370496 := rfl
  have b := y.toInt_lt
  refine ⟨by rw [Jvm.Kit.i64_div (by rw [k]; omega), Jvm.Kit.i64_of_i32, k, Int.tdiv_eq_ediv_of_nonneg (by decide)], ?_⟩
  exact Int.le_ediv_of_mul_le (by omega) (by omega)
theorem own_qne {y : Int32} (h : 1 ≤ y.toInt) : ((4503599627370496 : Int64) / (y.toInt64)) ≠ 0 := fun e => by
  have := congrArg Int64.toInt e
  rw [(own_q h).1, show (0 : Int64).toInt = 0 from rfl] at this
  have := (own_q h).2
  omega
theorem own_pp {p : Int64} {cc : Int32} {pp : Int64} (hc : 1 ≤ cc.toInt) (h : pp = ((1 : Int64) + ((p &&& (9223372036854775807 : Int64)) - ((p &&& (9223372036854775807 : Int64)) / ((4503599627370496 : Int64) / (cc.toInt64))) * ((4503599627370496 : Int64) / (cc.toInt64))))) : 1 ≤ pp.toInt ∧ cc.toInt * pp.toInt ≤ 4503599627370496 := by
  have e1 : (p &&& (9223372036854775807 : Int64)).toInt = p.toInt % 2 ^ 63 := Jvm.Kit.i64_mask p (9223372036854775807 : Int64) (k := 63) (by decide) (by decide)
  generalize (p &&& (9223372036854775807 : Int64)) = x at *
  obtain ⟨q1, q2⟩ := own_q hc
  have r := Jvm.Kit.i64_rem_nonneg (x := x) (y := (4503599627370496 : Int64) / (cc.toInt64)) (by omega)
  rw [q1] at r
  have b1 := Int.emod_nonneg x.toInt (show 4503599627370496 / cc.toInt ≠ 0 by omega)
  have b2 := Int.emod_lt_of_pos x.toInt (show 0 < 4503599627370496 / cc.toInt by omega)
  have u : 4503599627370496 / cc.toInt ≤ 4503599627370496 := Int.ediv_le_self _ (by decide)
  have o : (1 : Int64).toInt = 1 := rfl
  have e : pp.toInt = 1 + x.toInt % (4503599627370496 / cc.toInt) := by rw [h, Jvm.Kit.i64_add (by rw [r, o]; omega) (by rw [r, o]; omega), r, o]
  refine ⟨by omega, ?_⟩
  have m : cc.toInt * (4503599627370496 / cc.toInt) ≤ 4503599627370496 := Int.mul_ediv_self_le (by omega)
  have m2 : cc.toInt * pp.toInt ≤ cc.toInt * (4503599627370496 / cc.toInt) := Int.mul_le_mul_of_nonneg_left (by omega) (by omega)
  omega
theorem own_pm {r pm : Int64} (h : pm = ((1 : Int64) + (r &&& (2147483647 : Int64)))) : 1 ≤ pm.toInt ∧ pm.toInt ≤ 2147483648 := by
  have e1 : (r &&& (2147483647 : Int64)).toInt = r.toInt % 2 ^ 31 := Jvm.Kit.i64_mask r (2147483647 : Int64) (k := 31) (by decide) (by decide)
  have o : (1 : Int64).toInt = 1 := rfl
  rw [h, Jvm.Kit.i64_add (by rw [o]; omega) (by rw [o]; omega), o]
  omega
theorem own_k {x y k : Int32} (hy : 1 ≤ y.toInt) (h : k = ((x &&& (2147483647 : Int32)) % y)) : 0 ≤ k.toInt ∧ k.toInt < y.toInt := by
  have e1 : (x &&& (2147483647 : Int32)).toInt = x.toInt % 2 ^ 31 := Jvm.Kit.i32_mask x (2147483647 : Int32) (k := 31) (by decide) (by decide)
  rw [h, Jvm.Kit.i32_rem_nonneg (by omega)]
  exact ⟨Int.emod_nonneg _ (by omega), Int.emod_lt_of_pos _ (by omega)⟩
theorem own_sub {x y : Int32} (h1 : 0 ≤ y.toInt) (h2 : y.toInt < x.toInt) : (x - y).toInt = x.toInt - y.toInt := by
  have := x.toInt_lt
  exact Jvm.Kit.i32_sub (by omega) (by omega)
/-- the upper quotient -/
theorem own_dru {x y : Int64} (hx : 0 ≤ x.toInt ∧ x.toInt ≤ 4503599627370496) (hy : 1 ≤ y.toInt ∧ y.toInt ≤ 4503599627370496) : (f_dru x y).toInt = (x.toInt + (y.toInt - 1)) / y.toInt := by
  have o : (1 : Int64).toInt = 1 := rfl
  have e1 : (x + y).toInt = x.toInt + y.toInt := Jvm.Kit.i64_add (by omega) (by omega)
  have e2 : ((x + y) - (1 : Int64)).toInt = x.toInt + (y.toInt - 1) := by rw [Jvm.Kit.i64_sub (by omega) (by omega), e1, o]; omega
  unfold f_dru
  rw [Jvm.Kit.i64_div (by omega), e2, Int.tdiv_eq_ediv_of_nonneg (by omega)]
theorem own_drun {n : Int} {x y : Int64} (hx : x.toInt = n * y.toInt) (h0 : 0 ≤ n) (hb : n * y.toInt ≤ 4503599627370496) (hy : 1 ≤ y.toInt ∧ y.toInt ≤ 4503599627370496) : (f_dru x y).toInt = n := by
  have : 0 ≤ n * y.toInt := Int.mul_nonneg h0 (by omega)
  rw [own_dru ⟨by omega, by omega⟩ hy, hx, Int.add_comm, Int.add_mul_ediv_right _ _ (by omega), Int.ediv_eq_zero_of_lt (by omega) (by omega)]
  omega
theorem own_us {cc : Int32} {pp : Int64} (hc : 1 ≤ cc.toInt) (hp : 1 ≤ pp.toInt) (hb : cc.toInt * pp.toInt ≤ 4503599627370496) : (((cc - (1 : Int32)).toInt64) * pp).toInt = (cc.toInt - 1) * pp.toInt := by
  have o : (1 : Int32).toInt = 1 := rfl
  have := cc.toInt_lt
  have e : (cc - (1 : Int32)).toInt = cc.toInt - 1 := by rw [Jvm.Kit.i32_sub (by omega) (by omega), o]
  have m : (cc.toInt - 1) * pp.toInt = cc.toInt * pp.toInt - pp.toInt := by rw [Int.sub_mul, Int.one_mul]
  have m0 : 0 ≤ (cc.toInt - 1) * pp.toInt := Int.mul_nonneg (by omega) (by omega)
  rw [Jvm.Kit.i64_mul (by rw [Jvm.Kit.i64_of_i32, e]; omega) (by rw [Jvm.Kit.i64_of_i32, e]; omega), Jvm.Kit.i64_of_i32, e]
theorem own_pb {cc : Int32} {pp : Int64} (hc : 1 ≤ cc.toInt) (hp : 1 ≤ pp.toInt) (hb : cc.toInt * pp.toInt ≤ 4503599627370496) : 1 ≤ pp.toInt ∧ pp.toInt ≤ 4503599627370496 := by
  have : 1 * pp.toInt ≤ cc.toInt * pp.toInt := Int.mul_le_mul_of_nonneg_right hc (by omega)
  omega
theorem own_hs {cc : Int32} {pp : Int64} (hc : 1 ≤ cc.toInt) (hp : 1 ≤ pp.toInt) (hb : cc.toInt * pp.toInt ≤ 4503599627370496) : ¬ (((cc - (1 : Int32)).toInt64) * pp) < (0 : Int64) := by
  rw [Int64.lt_iff_toInt_lt, own_us hc hp hb, show (0 : Int64).toInt = 0 from rfl]
  have : 0 ≤ (cc.toInt - 1) * pp.toInt := Int.mul_nonneg (by omega) (by omega)
  omega
theorem own_fr {n : Int} {cc : Int32} {x pp : Int64} (hc : 1 ≤ cc.toInt) (hp : 1 ≤ pp.toInt) (hb : cc.toInt * pp.toInt ≤ 4503599627370496) (hx : x.toInt = n * pp.toInt) (h0 : 0 ≤ n) (hn : n ≤ cc.toInt) : (cc - ((f_dru x pp).toInt32)).toInt = cc.toInt - n := by
  have m : n * pp.toInt ≤ cc.toInt * pp.toInt := Int.mul_le_mul_of_nonneg_right hn (by omega)
  have e := own_drun hx h0 (by omega) (own_pb hc hp hb)
  have := cc.toInt_lt
  have e2 : ((f_dru x pp).toInt32).toInt = n := by rw [Jvm.Kit.i32_of_i64 (by omega) (by omega), e]
  rw [Jvm.Kit.i32_sub (by omega) (by omega), e2]
theorem own_d0 (pp : Int64) : ((0 : Int64) + pp).toInt = 1 * pp.toInt := by rw [Int64.zero_add]; omega
theorem own_hf {cc : Int32} {pp : Int64} (hc : 1 ≤ cc.toInt) (hp : 1 ≤ pp.toInt) (hb : cc.toInt * pp.toInt ≤ 4503599627370496) : ¬ ((cc - ((f_dru ((0 : Int64) + pp) pp).toInt32)).toInt64) < (0 : Int64) := by
  rw [Int64.lt_iff_toInt_lt, Jvm.Kit.i64_of_i32, own_fr hc hp hb (own_d0 pp) (by decide) hc, show (0 : Int64).toInt = 0 from rfl]
  omega
theorem own_step {n : Int} {cc k : Int32} {x pp : Int64} (hc : 1 ≤ cc.toInt) (hp : 1 ≤ pp.toInt) (hb : cc.toInt * pp.toInt ≤ 4503599627370496) (hx : x.toInt = n * pp.toInt) (h0 : 0 ≤ n) (hk : 0 ≤ k.toInt) (hn : n + k.toInt ≤ cc.toInt) : (x + ((k.toInt64) * pp)).toInt = (n + k.toInt) * pp.toInt := by
  have m1 : (n + k.toInt) * pp.toInt ≤ cc.toInt * pp.toInt := Int.mul_le_mul_of_nonneg_right hn (by omega)
  have m2 : (n + k.toInt) * pp.toInt = n * pp.toInt + k.toInt * pp.toInt := Int.add_mul _ _ _
  have m3 : 0 ≤ k.toInt * pp.toInt := Int.mul_nonneg hk (by omega)
  have m4 : 0 ≤ n * pp.toInt := Int.mul_nonneg h0 (by omega)
  have e : ((k.toInt64) * pp).toInt = k.toInt * pp.toInt := by rw [Jvm.Kit.i64_mul (by rw [Jvm.Kit.i64_of_i32]; omega) (by rw [Jvm.Kit.i64_of_i32]; omega), Jvm.Kit.i64_of_i32]
  rw [Jvm.Kit.i64_add (by omega) (by omega), e, hx, m2]
theorem own_D2 {cc k1 k2 : Int32} {pp : Int64} (hc : 1 ≤ cc.toInt) (hp : 1 ≤ pp.toInt) (hb : cc.toInt * pp.toInt ≤ 4503599627370496) (h1 : 0 ≤ k1.toInt) (h2 : 0 ≤ k2.toInt) (h3 : k1.toInt + k2.toInt < cc.toInt) :
    ((((0 : Int64) + pp) + ((k1.toInt64) * pp)) + ((k2.toInt64) * pp)).toInt = (1 + k1.toInt + k2.toInt) * pp.toInt :=
  own_step hc hp hb (own_step hc hp hb (own_d0 pp) (by decide) h1 (by omega)) (by omega) h2 (by omega)
theorem own_hd {t um ud : Int64} (hu : 1 ≤ ud.toInt ∧ ud.toInt ≤ 4503599627370496) (hm : 1 ≤ um.toInt ∧ um.toInt ≤ 2147483648) : f_da t t ud um = ud := by
  have z : t - t = 0 := Int64.sub_self t
  have e := own_dru (x := ud) (y := um) ⟨by omega, hu.2⟩ ⟨hm.1, by omega⟩
  have g : 1 ≤ (f_dru ud um).toInt := by rw [e]; exact Int.le_ediv_of_mul_le (by omega) (by omega)
  have g2 : (f_dru ud um).toInt ≤ 4503599627370496 := by
    rw [e]; refine Int.le_trans (Int.ediv_le_ediv (by omega) (show ud.toInt + (um.toInt - 1) ≤ ud.toInt * um.toInt from ?_)) ?_
    · have : 0 ≤ (ud.toInt - 1) * (um.toInt - 1) := Int.mul_nonneg (by omega) (by omega)
      have q : (ud.toInt - 1) * (um.toInt - 1) = ud.toInt * um.toInt - ud.toInt - um.toInt + 1 := by rw [Int.sub_mul, Int.mul_sub, Int.one_mul, Int.mul_one]; omega
      omega
    · rw [Int.mul_ediv_cancel _ (by omega)]; exact hu.2
  unfold f_da
  rw [z]
  have mn : (-9223372036854775808 : Int64).toInt = -9223372036854775808 := by decide
  have zz : ((0 : Int64) + (-9223372036854775808 : Int64)).toInt = -9223372036854775808 := by decide
  have k : ((f_dru ud um) + (-9223372036854775808 : Int64)).toInt = (f_dru ud um).toInt - 9223372036854775808 := by rw [Jvm.Kit.i64_add (by omega) (by omega), mn]; omega
  have q : f_cmp ((0 : Int64) + (-9223372036854775808 : Int64)) ((f_dru ud um) + (-9223372036854775808 : Int64)) < 0 := by
    unfold f_cmp
    rw [if_pos (by rw [Int64.lt_iff_toInt_lt]; omega)]
    decide
  rw [if_pos q, Int64.zero_mul, Int64.sub_zero]
theorem own_hx {n : Int} {cc : Int32} {x pp pm : Int64} (hc : 1 ≤ cc.toInt) (hp : 1 ≤ pp.toInt) (hb : cc.toInt * pp.toInt ≤ 4503599627370496) (hx : x.toInt = n * pp.toInt) (h0 : 0 ≤ n) (hn : n ≤ cc.toInt) (hm : 1 ≤ pm.toInt ∧ pm.toInt ≤ 2147483648) :
    1 ≤ (f_dru ((x + (((cc - ((f_dru x pp).toInt32)).toInt64) * pp)) - (((cc - (1 : Int32)).toInt64) * pp)) pm).toInt := by
  have f := own_fr hc hp hb hx h0 hn
  have e := own_step (k := cc - ((f_dru x pp).toInt32)) hc hp hb hx h0 (by omega) (by omega)
  rw [f, show n + (cc.toInt - n) = cc.toInt by omega] at e
  have us := own_us hc hp hb
  have m : (cc.toInt - 1) * pp.toInt = cc.toInt * pp.toInt - pp.toInt := by rw [Int.sub_mul, Int.one_mul]
  have m0 : 0 ≤ (cc.toInt - 1) * pp.toInt := Int.mul_nonneg (by omega) (by omega)
  have d : ((x + (((cc - ((f_dru x pp).toInt32)).toInt64) * pp)) - (((cc - (1 : Int32)).toInt64) * pp)).toInt = pp.toInt := by rw [Jvm.Kit.i64_sub (by omega) (by omega), e, us]; omega
  rw [own_dru ⟨by omega, by omega⟩ ⟨hm.1, by omega⟩, d]
  exact Int.le_ediv_of_mul_le (by omega) (by omega)
theorem own_free {cc k1 k2 : Int32} {x pp : Int64} (hc : 1 ≤ cc.toInt) (hp : 1 ≤ pp.toInt) (hb : cc.toInt * pp.toInt ≤ 4503599627370496) (h1 : 0 ≤ k1.toInt) (h2 : 0 ≤ k2.toInt) (h3 : k1.toInt + k2.toInt < cc.toInt) (hx : x.toInt = (1 + k1.toInt + k2.toInt) * pp.toInt) :
    (cc - ((f_dru x pp).toInt32)) = (((cc - (1 : Int32)) - k1) - k2) := by
  have o : (1 : Int32).toInt = 1 := rfl
  have := cc.toInt_lt
  have e1 : (cc - (1 : Int32)).toInt = cc.toInt - 1 := by rw [Jvm.Kit.i32_sub (by omega) (by omega), o]
  have e2 : ((cc - (1 : Int32)) - k1).toInt = cc.toInt - 1 - k1.toInt := by rw [Jvm.Kit.i32_sub (by omega) (by omega), e1]
  rw [← Int32.toInt_inj, own_fr hc hp hb hx (by omega) (by omega), Jvm.Kit.i32_sub (by omega) (by omega), e2]
  omega
theorem own_units {cc k1 k2 : Int32} {pp : Int64} (hc : 1 ≤ cc.toInt) (hp : 1 ≤ pp.toInt) (hb : cc.toInt * pp.toInt ≤ 4503599627370496) (h1 : 0 ≤ k1.toInt) (h2 : 0 ≤ k2.toInt) (h3 : k1.toInt + k2.toInt < cc.toInt) :
    ((((1 : Int64) + (k1.toInt64)) + (k2.toInt64)) * pp).toInt = (1 + k1.toInt + k2.toInt) * pp.toInt := by
  have o : (1 : Int64).toInt = 1 := rfl
  have := cc.toInt_lt
  have e1 : ((1 : Int64) + (k1.toInt64)).toInt = 1 + k1.toInt := by rw [Jvm.Kit.i64_add (by rw [Jvm.Kit.i64_of_i32]; omega) (by rw [Jvm.Kit.i64_of_i32]; omega), Jvm.Kit.i64_of_i32, o]
  have e2 : (((1 : Int64) + (k1.toInt64)) + (k2.toInt64)).toInt = 1 + k1.toInt + k2.toInt := by rw [Jvm.Kit.i64_add (by rw [Jvm.Kit.i64_of_i32]; omega) (by rw [Jvm.Kit.i64_of_i32]; omega), Jvm.Kit.i64_of_i32, e1]
  have m1 : (1 + k1.toInt + k2.toInt) * pp.toInt ≤ cc.toInt * pp.toInt := Int.mul_le_mul_of_nonneg_right (by omega) (by omega)
  have m4 : 0 ≤ (1 + k1.toInt + k2.toInt) * pp.toInt := Int.mul_nonneg (by omega) (by omega)
  rw [Jvm.Kit.i64_mul (by rw [e2]; omega) (by rw [e2]; omega), e2]
theorem own_millis {x u pm : Int64} (hm : 1 ≤ pm.toInt ∧ pm.toInt ≤ 2147483648) (hx : 0 ≤ x.toInt ∧ x.toInt ≤ 4503599627370496) (e : u.toInt = x.toInt) :
    f_dru x pm = ((u / pm) + (if (u - (u / pm) * pm) = (0 : Int64) then (0 : Int64) else (1 : Int64))) := by
  have z : (0 : Int64).toInt = 0 := rfl
  have o : (1 : Int64).toInt = 1 := rfl
  have d : (u / pm).toInt = u.toInt / pm.toInt := by rw [Jvm.Kit.i64_div (by omega), Int.tdiv_eq_ediv_of_nonneg (by omega)]
  have r : (u - (u / pm) * pm).toInt = u.toInt % pm.toInt := Jvm.Kit.i64_rem_nonneg (by omega)
  have f := own_dru (y := pm) hx ⟨hm.1, by omega⟩
  have dm := Int.mul_ediv_add_emod u.toInt pm.toInt
  have b1 := Int.emod_nonneg u.toInt (show pm.toInt ≠ 0 by omega)
  have b2 := Int.emod_lt_of_pos u.toInt (show 0 < pm.toInt by omega)
  have q0 : 0 ≤ u.toInt / pm.toInt := Int.ediv_nonneg (by omega) (by omega)
  have q1 : u.toInt / pm.toInt ≤ u.toInt := Int.ediv_le_self _ (by omega)
  have key : (x.toInt + (pm.toInt - 1)) / pm.toInt = u.toInt / pm.toInt + (u.toInt % pm.toInt + (pm.toInt - 1)) / pm.toInt := by
    rw [← e]
    have : u.toInt + (pm.toInt - 1) = (u.toInt % pm.toInt + (pm.toInt - 1)) + u.toInt / pm.toInt * pm.toInt := by rw [Int.mul_comm (u.toInt / pm.toInt)]; omega
    rw [this, Int.add_mul_ediv_right _ _ (by omega)]; omega
  rw [← Int64.toInt_inj, f, key]
  by_cases c : (u - (u / pm) * pm) = (0 : Int64)
  · have c' := congrArg Int64.toInt c
    rw [r, z] at c'
    have z0 : (0 + (pm.toInt - 1)) / pm.toInt = 0 := Int.ediv_eq_zero_of_lt (by omega) (by omega)
    rw [if_pos c, c', Int64.add_zero, d, z0]; omega
  · have c' : u.toInt % pm.toInt ≠ 0 := fun h => c (Int64.toInt_inj.mp (by rw [r, h, z]))
    have one : (u.toInt % pm.toInt + (pm.toInt - 1)) / pm.toInt = 1 := by
      have : u.toInt % pm.toInt + (pm.toInt - 1) = (u.toInt % pm.toInt - 1) + 1 * pm.toInt := by omega
      rw [this, Int.add_mul_ediv_right _ _ (by omega), Int.ediv_eq_zero_of_lt (by omega) (by omega)]; omega
    rw [if_neg c, one, Jvm.Kit.i64_add (by rw [d, o]; omega) (by rw [d, o]; omega), d, o]
theorem own_last {t x u pm : Int64} (hm : 1 ≤ pm.toInt ∧ pm.toInt ≤ 2147483648) (hx : 0 ≤ x.toInt ∧ x.toInt ≤ 4503599627370496) (e : u.toInt = x.toInt) {ml : Int64} (h : ml = ((u / pm) + (if (u - (u / pm) * pm) = (0 : Int64) then (0 : Int64) else (1 : Int64)))) :
    f_later t (f_dru x pm) = (if ((9223372036854775807 : Int64) - ml) < t then (9223372036854775807 : Int64) else (t + ml)) := by
  rw [h, ← own_millis hm hx e]; rfl
theorem pd__II_I : parseMethodDescriptor "(II)I" = some ⟨[.int, .int], some .int⟩ := by decide +kernel
theorem pd__IJJ_V : parseMethodDescriptor "(IJJ)V" = some ⟨[.int, .long, .long], none⟩ := by decide +kernel
theorem pd__I_V : parseMethodDescriptor "(I)V" = some ⟨[.int], none⟩ := by decide +kernel
theorem pd___Lcom_example_even_bucket_evenbucket_Admissions_Moment_ : parseMethodDescriptor "()Lcom/example/even_bucket/evenbucket/Admissions$Moment;" = some ⟨[], some (.object "com/example/even_bucket/evenbucket/Admissions$Moment")⟩ := by decide +kernel
theorem pd___J : parseMethodDescriptor "()J" = some ⟨[], some .long⟩ := by decide +kernel
theorem pn_GreedyBucketRecordAtLatestDecisionPinLaw : plainName "com/example/even_bucket/evenbucket/GreedyBucketRecordAtLatestDecisionPinLaw" = true := by first | (simp [plainName, overriddenIn]; done) | decide +kernel
theorem ef0 (m : MethodId) (x0 : Int32) (x1 : Int64) (x2 : Int64) (x3 : Int64) (x4 : Int32) (x5 : Int32) : entryFrame m #[(.int x0), (.long x1), (.long x2), (.long x3), (.int x4), (.int x5)] maxLocals = mkF m 0 #[.val (.int x0), .val (.long x1), .second, .val (.long x2), .second, .val (.long x3), .second, .val (.int x4), .val (.int x5), .unset, .unset, .unset, .unset, .unset, .unset, .unset, .unset, .unset, .unset, .unset, .unset, .unset, .unset, .unset, .unset, .unset] [] := by first | (simp [entryFrame, mkF, argsToLocals, Value.category, maxLocals]; done) | rfl
def Q0 (Z : State) (p0 : Int32) (q1 : Int64) (q2 : Int64) (q3 : Int64) (p4 : Int32) (p5 : Int32) (vz : Addr) (h0 : Heap) (n0 : Nat) (v : Option Value) (h : Heap) (L : List Loc) : Prop := v = some (.int (1 : Int32)) ∧ Fr n0 L
set_option maxRecDepth 65536 in
set_option maxHeartbeats 40000000 in
theorem rm0 (l : Launch) (Z : State) (a0 : Array Value) (hw : ∀ d ∈ tables_1, d.before a0 Z = true) (ws : List Jvm.Cond) (p0 : Int32) (q1 : Int64) (q2 : Int64) (q3 : Int64) (p4 : Int32) (p5 : Int32) (vz : Addr) (h0 : Heap) (n0 : Nat) (Z0 : n0 ≤ h0.size) (Sz : Sta Z h0 "java/time/Duration" "ZERO" "Ljava/time/Duration;" (.ref vz)) :
    MetFree l x (head1 (Jvm.Cond.code x code maxLocals ret :: ws) room_1) (fun a U => a = #[(.int p0), (.long q1), (.long q2), (.long q3), (.int p4), (.int p5)] ∧ Z.Warmed39 U.vm ∧ U.heap = h0) (fun _ _ _ _ _ => True) (fun _ U o U' => ∃ v L, o = .returned v ∧ Q0 Z p0 q1 q2 q3 p4 p5 vz h0 n0 v U'.heap L ∧ ReturnedEndW U o U' L room_1.cells room_1.slots) := by
  refine MetFree.of_bodySF (plainFor_of_name pn_GreedyBucketRecordAtLatestDecisionPinLaw) hisR ?_
  intro p e s m args below meth c s₁ Bd hml0 hP hK
  obtain ⟨rfl, hZ, hh⟩ := hP
  have hx := Bd.exec
  have hby := Bd.bytes
  have hml : c.maxLocals = 26 := hml0
  have hown : s.vm.findClass "com/example/even_bucket/evenbucket/GreedyBucketRecordAtLatestDecisionPinLaw" = some m.cls := findClass_of_methodNamed Bd.named
  have hnm := (name_of_methodNamed Bd.named Bd.method).1
  have X0 : Stand p l e room_1 s m #[(.int p0), (.long q1), (.long q2), (.long q3), (.int p4), (.int p5)] below meth c s₁ [] 0 0 := Stand.of_body Bd
  have e0 : s₁.heap = h0 := by rw [← hh, Bd.state]; rfl
  have N0 := Fr.nil n0
  have pre0 : ∀ t, Steps p.tables e below (s₁.setTop (mkF m 0 #[.val (.int p0), .val (.long q1), .second, .val (.long q2), .second, .val (.long q3), .second, .val (.int p4), .val (.int p5), .unset, .unset, .unset, .unset, .unset, .unset, .unset, .unset, .unset, .unset, .unset, .unset, .unset, .unset, .unset, .unset, .unset] [])) t → Steps p.tables e below (s₁.setTop (entryFrame m #[(.int p0), (.long q1), (.long q2), (.long q3), (.int p4), (.int p5)] maxLocals)) t := fun t k => castTop (ef0 m p0 q1 q2 q3 p4 p5) k
  obtain ⟨_, _, ⟨T273, L273, k273, n273⟩, -, X273, ⟨Lc273, hQ273, l273, y273, z273⟩, st273⟩ := Jvm.LawKit.callS X0 hx (y := (⟨"java/lang/Math", "max", "(II)I"⟩ : MethodName)) hown (mvT hZ (hw _ (List.mem_of_getElem? (i := 1) rfl))) (mvT hZ (hw _ (List.mem_of_getElem? (i := 2) rfl))) (mvT hZ (hw _ (List.mem_of_getElem? (i := 3) rfl))) (mvT hZ (hw _ (List.mem_of_getElem? (i := 4) rfl))) (by decide) (backOf (W := 0) (rm1 l Z a0 hw [] (1 : Int32) (p0 &&& (2147483647 : Int32)) h0 n0 Z0 ) hZ (hw _ (List.mem_of_getElem? (i := 4) rfl)) (hw _ (List.mem_of_getElem? (i := 3) rfl)) (by decide) (by decide)) (g := (mkF m 5 #[.val (.int p0), .val (.long q1), .second, .val (.long q2), .second, .val (.long q3), .second, .val (.int p4), .val (.int p5), .unset, .unset, .unset, .unset, .unset, .unset, .unset, .unset, .unset, .unset, .unset, .unset, .unset, .unset, .unset, .unset, .unset] [(.int (p0 &&& (2147483647 : Int32))), (.int (1 : Int32))])) rfl (by rw [hml]; rfl) (argsL := [(.int (1 : Int32)), (.int (p0 &&& (2147483647 : Int32)))]) (rest := []) (lenOf pd__II_I rfl) rfl (by show 2 * 0 + _ ≤ _; exact Nat.le_of_eq rfl) (hb hby at_5) (fun _ _ => ⟨rfl, e0, (by decide : 0 + 0 ≤ _), (by decide : 0 + 0 ≤ _)⟩)
  dsimp only [Pt.U, Pt.locs, Pt.cells, Pt.slots] at X273 l273 y273 z273 st273 hQ273
  subst l273 y273 z273
  obtain ⟨rfl, Nq273, e273⟩ := hQ273
  have N273 := Fr.app N0 Nq273
  have S274 : ∀ t, Steps p.tables e below (T273.setTop (mkF m 10 #[.val (.int p0), .val (.long q1), .second, .val (.long q2), .second, .val (.long q3), .second, .val (.int p4), .val (.int p5), .val (.int (f_max (1 : Int32) (p0 &&& (2147483647 : Int32)))), .unset, .unset, .unset, .unset, .unset, .unset, .unset, .unset, .unset, .unset, .unset, .unset, .unset, .unset, .unset, .unset] [])) t → Steps p.tables e below (s₁.setTop (entryFrame m #[(.int p0), (.long q1), (.long q2), (.long q3), (.int p4), (.int p5)] maxLocals)) t := by
    intro t kt
    refine pre0 _ ?_
    show Steps p.tables e below (s₁.setTop (mkF m 0 #[.val (.int p0), .val (.long q1), .second, .val (.long q2), .second, .val (.long q3), .second, .val (.int p4), .val (.int p5), .unset, .unset, .unset, .unset, .unset, .unset, .unset, .unset, .unset, .unset, .unset, .unset, .unset, .unset, .unset, .unset, .unset] [])) _
    refine XS.iconst X0.here hx rfl (hb hby at_0) ?_
    show Steps p.tables e below (s₁.setTop (mkF m 1 #[.val (.int p0), .val (.long q1), .second, .val (.long q2), .second, .val (.long q3), .second, .val (.int p4), .val (.int p5), .unset, .unset, .unset, .unset, .unset, .unset, .unset, .unset, .unset, .unset, .unset, .unset, .unset, .unset, .unset, .unset, .unset] [(.int (1 : Int32))])) _
    refine XS.iloadN X0.here hx rfl (hb hby at_1) rfl ?_
    show Steps p.tables e below (s₁.setTop (mkF m 2 #[.val (.int p0), .val (.long q1), .second, .val (.long q2), .second, .val (.long q3), .second, .val (.int p4), .val (.int p5), .unset, .unset, .unset, .unset, .unset, .unset, .unset, .unset, .unset, .unset, .unset, .unset, .unset, .unset, .unset, .unset, .unset] [(.int p0), (.int (1 : Int32))])) _
    refine X0.ldcInt hx hown (mvT hZ (hw _ (List.mem_of_getElem? (i := 0) rfl))) (g := (mkF m 2 #[.val (.int p0), .val (.long q1), .second, .val (.long q2), .second, .val (.long q3), .second, .val (.int p4), .val (.int p5), .unset, .unset, .unset, .unset, .unset, .unset, .unset, .unset, .unset, .unset, .unset, .unset, .unset, .unset, .unset, .unset, .unset] [(.int p0), (.int (1 : Int32))])) rfl (hb hby at_2) _ ?_
    show Steps p.tables e below (s₁.setTop (mkF m 4 #[.val (.int p0), .val (.long q1), .second, .val (.long q2), .second, .val (.long q3), .second, .val (.int p4), .val (.int p5), .unset, .unset, .unset, .unset, .unset, .unset, .unset, .unset, .unset, .unset, .unset, .unset, .unset, .unset, .unset, .unset, .unset] [(.int (2147483647 : Int32)), (.int p0), (.int (1 : Int32))])) _
    refine XS.iand X0.here hx rfl (hb hby at_4) rfl ?_
    show Steps p.tables e below (s₁.setTop (mkF m 5 #[.val (.int p0), .val (.long q1), .second, .val (.long q2), .second, .val (.long q3), .second, .val (.int p4), .val (.int p5), .unset, .unset, .unset, .unset, .unset, .unset, .unset, .unset, .unset, .unset, .unset, .unset, .unset, .unset, .unset, .unset, .unset] [(.int (p0 &&& (2147483647 : Int32))), (.int (1 : Int32))])) _
    refine st273 _ ?_
    show Steps p.tables e below (T273.setTop (mkF m 8 #[.val (.int p0), .val (.long q1), .second, .val (.long q2), .second, .val (.long q3), .second, .val (.int p4), .val (.int p5), .unset, .unset, .unset, .unset, .unset, .unset, .unset, .unset, .unset, .unset, .unset, .unset, .unset, .unset, .unset, .unset, .unset] [(.int (f_max (1 : Int32) (p0 &&& (2147483647 : Int32))))])) _
    refine XS.istore X273.here hx rfl (hb hby at_8) rfl (l' := #[.val (.int p0), .val (.long q1), .second, .val (.long q2), .second, .val (.long q3), .second, .val (.int p4), .val (.int p5), .val (.int (f_max (1 : Int32) (p0 &&& (2147483647 : Int32)))), .unset, .unset, .unset, .unset, .unset, .unset, .unset, .unset, .unset, .unset, .unset, .unset, .unset, .unset, .unset, .unset]) rfl ?_
    exact kt
  obtain ⟨cc, hd_cc⟩ : ∃ z, z = (f_max (1 : Int32) (p0 &&& (2147483647 : Int32))) := ⟨_, rfl⟩
  rw [← hd_cc] at S274
  have hcc := own_cc hd_cc
  have S275 : ∀ t, Steps p.tables e below (T273.setTop (mkF m 27 #[.val (.int p0), .val (.long q1), .second, .val (.long q2), .second, .val (.long q3), .second, .val (.int p4), .val (.int p5), .val (.int cc), .val (.long ((1 : Int64) + ((q1 &&& (9223372036854775807 : Int64)) - ((q1 &&& (9223372036854775807 : Int64)) / ((4503599627370496 : Int64) / (cc.toInt64))) * ((4503599627370496 : Int64) / (cc.toInt64))))), .second, .unset, .unset, .unset, .unset, .unset, .unset, .unset, .unset, .unset, .unset, .unset, .unset, .unset, .unset] [])) t → Steps p.tables e below (s₁.setTop (entryFrame m #[(.int p0), (.long q1), (.long q2), (.long q3), (.int p4), (.int p5)] maxLocals)) t := by
    intro t kt
    refine S274 _ ?_
    show Steps p.tables e below (T273.setTop (mkF m 10 #[.val (.int p0), .val (.long q1), .second, .val (.long q2), .second, .val (.long q3), .second, .val (.int p4), .val (.int p5), .val (.int cc), .unset, .unset, .unset, .unset, .unset, .unset, .unset, .unset, .unset, .unset, .unset, .unset, .unset, .unset, .unset, .unset] [])) _
    refine XS.lconst X273.here hx rfl (hb hby at_10) ?_
    show Steps p.tables e below (T273.setTop (mkF m 11 #[.val (.int p0), .val (.long q1), .second, .val (.long q2), .second, .val (.long q3), .second, .val (.int p4), .val (.int p5), .val (.int cc), .unset, .unset, .unset, .unset, .unset, .unset, .unset, .unset, .unset, .unset, .unset, .unset, .unset, .unset, .unset, .unset] [(.long (1 : Int64))])) _
    refine XS.lloadN X273.here hx rfl (hb hby at_11) rfl ?_
    show Steps p.tables e below (T273.setTop (mkF m 12 #[.val (.int p0), .val (.long q1), .second, .val (.long q2), .second, .val (.long q3), .second, .val (.int p4), .val (.int p5), .val (.int cc), .unset, .unset, .unset, .unset, .unset, .unset, .unset, .unset, .unset, .unset, .unset, .unset, .unset, .unset, .unset, .unset] [(.long q1), (.long (1 : Int64))])) _
    refine X273.ldc2Long hx hown (mvT hZ (hw _ (List.mem_of_getElem? (i := 5) rfl))) (g := (mkF m 12 #[.val (.int p0), .val (.long q1), .second, .val (.long q2), .second, .val (.long q3), .second, .val (.int p4), .val (.int p5), .val (.int cc), .unset, .unset, .unset, .unset, .unset, .unset, .unset, .unset, .unset, .unset, .unset, .unset, .unset, .unset, .unset, .unset] [(.long q1), (.long (1 : Int64))])) rfl (hb hby at_12) _ ?_
    show Steps p.tables e below (T273.setTop (mkF m 15 #[.val (.int p0), .val (.long q1), .second, .val (.long q2), .second, .val (.long q3), .second, .val (.int p4), .val (.int p5), .val (.int cc), .unset, .unset, .unset, .unset, .unset, .unset, .unset, .unset, .unset, .unset, .unset, .unset, .unset, .unset, .unset, .unset] [(.long (9223372036854775807 : Int64)), (.long q1), (.long (1 : Int64))])) _
    refine XS.land X273.here hx rfl (hb hby at_15) rfl ?_
    show Steps p.tables e below (T273.setTop (mkF m 16 #[.val (.int p0), .val (.long q1), .second, .val (.long q2), .second, .val (.long q3), .second, .val (.int p4), .val (.int p5), .val (.int cc), .unset, .unset, .unset, .unset, .unset, .unset, .unset, .unset, .unset, .unset, .unset, .unset, .unset, .unset, .unset, .unset] [(.long (q1 &&& (9223372036854775807 : Int64))), (.long (1 : Int64))])) _
    refine X273.ldc2Long hx hown (mvT hZ (hw _ (List.mem_of_getElem? (i := 6) rfl))) (g := (mkF m 16 #[.val (.int p0), .val (.long q1), .second, .val (.long q2), .second, .val (.long q3), .second, .val (.int p4), .val (.int p5), .val (.int cc), .unset, .unset, .unset, .unset, .unset, .unset, .unset, .unset, .unset, .unset, .unset, .unset, .unset, .unset, .unset, .unset] [(.long (q1 &&& (9223372036854775807 : Int64))), (.long (1 : Int64))])) rfl (hb hby at_16) _ ?_
    show Steps p.tables e below (T273.setTop (mkF m 19 #[.val (.int p0), .val (.long q1), .second, .val (.long q2), .second, .val (.long q3), .second, .val (.int p4), .val (.int p5), .val (.int cc), .unset, .unset, .unset, .unset, .unset, .unset, .unset, .unset, .unset, .unset, .unset, .unset, .unset, .unset, .unset, .unset] [(.long (4503599627370496 : Int64)), (.long (q1 &&& (9223372036854775807 : Int64))), (.long (1 : Int64))])) _
    refine XS.iload X273.here hx rfl (hb hby at_19) rfl ?_
    show Steps p.tables e below (T273.setTop (mkF m 21 #[.val (.int p0), .val (.long q1), .second, .val (.long q2), .second, .val (.long q3), .second, .val (.int p4), .val (.int p5), .val (.int cc), .unset, .unset, .unset, .unset, .unset, .unset, .unset, .unset, .unset, .unset, .unset, .unset, .unset, .unset, .unset, .unset] [(.int cc), (.long (4503599627370496 : Int64)), (.long (q1 &&& (9223372036854775807 : Int64))), (.long (1 : Int64))])) _
    refine XS.i2l X273.here hx rfl (hb hby at_21) rfl ?_
    show Steps p.tables e below (T273.setTop (mkF m 22 #[.val (.int p0), .val (.long q1), .second, .val (.long q2), .second, .val (.long q3), .second, .val (.int p4), .val (.int p5), .val (.int cc), .unset, .unset, .unset, .unset, .unset, .unset, .unset, .unset, .unset, .unset, .unset, .unset, .unset, .unset, .unset, .unset] [(.long (cc.toInt64)), (.long (4503599627370496 : Int64)), (.long (q1 &&& (9223372036854775807 : Int64))), (.long (1 : Int64))])) _
    refine XS.ldiv X273.here hx rfl (hb hby at_22) rfl (own_neL hcc) ?_
    show Steps p.tables e below (T273.setTop (mkF m 23 #[.val (.int p0), .val (.long q1), .second, .val (.long q2), .second, .val (.long q3), .second, .val (.int p4), .val (.int p5), .val (.int cc), .unset, .unset, .unset, .unset, .unset, .unset, .unset, .unset, .unset, .unset, .unset, .unset, .unset, .unset, .unset, .unset] [(.long ((4503599627370496 : Int64) / (cc.toInt64))), (.long (q1 &&& (9223372036854775807 : Int64))), (.long (1 : Int64))])) _
    refine XS.lrem X273.here hx rfl (hb hby at_23) rfl (own_qne hcc) ?_
    show Steps p.tables e below (T273.setTop (mkF m 24 #[.val (.int p0), .val (.long q1), .second, .val (.long q2), .second, .val (.long q3), .second, .val (.int p4), .val (.int p5), .val (.int cc), .unset, .unset, .unset, .unset, .unset, .unset, .unset, .unset, .unset, .unset, .unset, .unset, .unset, .unset, .unset, .unset] [(.long ((q1 &&& (9223372036854775807 : Int64)) - ((q1 &&& (9223372036854775807 : Int64)) / ((4503599627370496 : Int64) / (cc.toInt64))) * ((4503599627370496 : Int64) / (cc.toInt64)))), (.long (1 : Int64))])) _
    refine XS.ladd X273.here hx rfl (hb hby at_24) rfl ?_
    show Steps p.tables e below (T273.setTop (mkF m 25 #[.val (.int p0), .val (.long q1), .second, .val (.long q2), .second, .val (.long q3), .second, .val (.int p4), .val (.int p5), .val (.int cc), .unset, .unset, .unset, .unset, .unset, .unset, .unset, .unset, .unset, .unset, .unset, .unset, .unset, .unset, .unset, .unset] [(.long ((1 : Int64) + ((q1 &&& (9223372036854775807 : Int64)) - ((q1 &&& (9223372036854775807 : Int64)) / ((4503599627370496 : Int64) / (cc.toInt64))) * ((4503599627370496 : Int64) / (cc.toInt64)))))])) _
    refine XS.lstore X273.here hx rfl (hb hby at_25) rfl (l' := #[.val (.int p0), .val (.long q1), .second, .val (.long q2), .second, .val (.long q3), .second, .val (.int p4), .val (.int p5), .val (.int cc), .val (.long ((1 : Int64) + ((q1 &&& (9223372036854775807 : Int64)) - ((q1 &&& (9223372036854775807 : Int64)) / ((4503599627370496 : Int64) / (cc.toInt64))) * ((4503599627370496 : Int64) / (cc.toInt64))))), .second, .unset, .unset, .unset, .unset, .unset, .unset, .unset, .unset, .unset, .unset, .unset, .unset, .unset, .unset]) rfl ?_
    exact kt
  obtain ⟨pp, hd_pp⟩ : ∃ z, z = ((1 : Int64) + ((q1 &&& (9223372036854775807 : Int64)) - ((q1 &&& (9223372036854775807 : Int64)) / ((4503599627370496 : Int64) / (cc.toInt64))) * ((4503599627370496 : Int64) / (cc.toInt64)))) := ⟨_, rfl⟩
  rw [← hd_pp] at S275
  obtain ⟨hpp, hcp⟩ := own_pp hcc hd_pp
  have S276 : ∀ t, Steps p.tables e below (T273.setTop (mkF m 36 #[.val (.int p0), .val (.long q1), .second, .val (.long q2), .second, .val (.long q3), .second, .val (.int p4), .val (.int p5), .val (.int cc), .val (.long pp), .second, .val (.long ((1 : Int64) + (q2 &&& (2147483647 : Int64)))), .second, .unset, .unset, .unset, .unset, .unset, .unset, .unset, .unset, .unset, .unset, .unset, .unset] [])) t → Steps p.tables e below (s₁.setTop (entryFrame m #[(.int p0), (.long q1), (.long q2), (.long q3), (.int p4), (.int p5)] maxLocals)) t := by
    intro t kt
    refine S275 _ ?_
    show Steps p.tables e below (T273.setTop (mkF m 27 #[.val (.int p0), .val (.long q1), .second, .val (.long q2), .second, .val (.long q3), .second, .val (.int p4), .val (.int p5), .val (.int cc), .val (.long pp), .second, .unset, .unset, .unset, .unset, .unset, .unset, .unset, .unset, .unset, .unset, .unset, .unset, .unset, .unset] [])) _
    refine XS.lconst X273.here hx rfl (hb hby at_27) ?_
    show Steps p.tables e below (T273.setTop (mkF m 28 #[.val (.int p0), .val (.long q1), .second, .val (.long q2), .second, .val (.long q3), .second, .val (.int p4), .val (.int p5), .val (.int cc), .val (.long pp), .second, .unset, .unset, .unset, .unset, .unset, .unset, .unset, .unset, .unset, .unset, .unset, .unset, .unset, .unset] [(.long (1 : Int64))])) _
    refine XS.lloadN X273.here hx rfl (hb hby at_28) rfl ?_
    show Steps p.tables e below (T273.setTop (mkF m 29 #[.val (.int p0), .val (.long q1), .second, .val (.long q2), .second, .val (.long q3), .second, .val (.int p4), .val (.int p5), .val (.int cc), .val (.long pp), .second, .unset, .unset, .unset, .unset, .unset, .unset, .unset, .unset, .unset, .unset, .unset, .unset, .unset, .unset] [(.long q2), (.long (1 : Int64))])) _
    refine X273.ldc2Long hx hown (mvT hZ (hw _ (List.mem_of_getElem? (i := 7) rfl))) (g := (mkF m 29 #[.val (.int p0), .val (.long q1), .second, .val (.long q2), .second, .val (.long q3), .second, .val (.int p4), .val (.int p5), .val (.int cc), .val (.long pp), .second, .unset, .unset, .unset, .unset, .unset, .unset, .unset, .unset, .unset, .unset, .unset, .unset, .unset, .unset] [(.long q2), (.long (1 : Int64))])) rfl (hb hby at_29) _ ?_
    show Steps p.tables e below (T273.setTop (mkF m 32 #[.val (.int p0), .val (.long q1), .second, .val (.long q2), .second, .val (.long q3), .second, .val (.int p4), .val (.int p5), .val (.int cc), .val (.long pp), .second, .unset, .unset, .unset, .unset, .unset, .unset, .unset, .unset, .unset, .unset, .unset, .unset, .unset, .unset] [(.long (2147483647 : Int64)), (.long q2), (.long (1 : Int64))])) _
    refine XS.land X273.here hx rfl (hb hby at_32) rfl ?_
    show Steps p.tables e below (T273.setTop (mkF m 33 #[.val (.int p0), .val (.long q1), .second, .val (.long q2), .second, .val (.long q3), .second, .val (.int p4), .val (.int p5), .val (.int cc), .val (.long pp), .second, .unset, .unset, .unset, .unset, .unset, .unset, .unset, .unset, .unset, .unset, .unset, .unset, .unset, .unset] [(.long (q2 &&& (2147483647 : Int64))), (.long (1 : Int64))])) _
    refine XS.ladd X273.here hx rfl (hb hby at_33) rfl ?_
    show Steps p.tables e below (T273.setTop (mkF m 34 #[.val (.int p0), .val (.long q1), .second, .val (.long q2), .second, .val (.long q3), .second, .val (.int p4), .val (.int p5), .val (.int cc), .val (.long pp), .second, .unset, .unset, .unset, .unset, .unset, .unset, .unset, .unset, .unset, .unset, .unset, .unset, .unset, .unset] [(.long ((1 : Int64) + (q2 &&& (2147483647 : Int64))))])) _
    refine XS.lstore X273.here hx rfl (hb hby at_34) rfl (l' := #[.val (.int p0), .val (.long q1), .second, .val (.long q2), .second, .val (.long q3), .second, .val (.int p4), .val (.int p5), .val (.int cc), .val (.long pp), .second, .val (.long ((1 : Int64) + (q2 &&& (2147483647 : Int64)))), .second, .unset, .unset, .unset, .unset, .unset, .unset, .unset, .unset, .unset, .unset, .unset, .unset]) rfl ?_
    exact kt
  obtain ⟨pm, hd_pm⟩ : ∃ z, z = ((1 : Int64) + (q2 &&& (2147483647 : Int64))) := ⟨_, rfl⟩
  rw [← hd_pm] at S276
  have hpm := own_pm hd_pm
  have S277 : ∀ t, Steps p.tables e below (T273.setTop (mkF m 46 #[.val (.int p0), .val (.long q1), .second, .val (.long q2), .second, .val (.long q3), .second, .val (.int p4), .val (.int p5), .val (.int cc), .val (.long pp), .second, .val (.long pm), .second, .val (.int ((p4 &&& (2147483647 : Int32)) % cc)), .unset, .unset, .unset, .unset, .unset, .unset, .unset, .unset, .unset, .unset, .unset] [])) t → Steps p.tables e below (s₁.setTop (entryFrame m #[(.int p0), (.long q1), (.long q2), (.long q3), (.int p4), (.int p5)] maxLocals)) t := by
    intro t kt
    refine S276 _ ?_
    show Steps p.tables e below (T273.setTop (mkF m 36 #[.val (.int p0), .val (.long q1), .second, .val (.long q2), .second, .val (.long q3), .second, .val (.int p4), .val (.int p5), .val (.int cc), .val (.long pp), .second, .val (.long pm), .second, .unset, .unset, .unset, .unset, .unset, .unset, .unset, .unset, .unset, .unset, .unset, .unset] [])) _
    refine XS.iload X273.here hx rfl (hb hby at_36) rfl ?_
    show Steps p.tables e below (T273.setTop (mkF m 38 #[.val (.int p0), .val (.long q1), .second, .val (.long q2), .second, .val (.long q3), .second, .val (.int p4), .val (.int p5), .val (.int cc), .val (.long pp), .second, .val (.long pm), .second, .unset, .unset, .unset, .unset, .unset, .unset, .unset, .unset, .unset, .unset, .unset, .unset] [(.int p4)])) _
    refine X273.ldcInt hx hown (mvT hZ (hw _ (List.mem_of_getElem? (i := 0) rfl))) (g := (mkF m 38 #[.val (.int p0), .val (.long q1), .second, .val (.long q2), .second, .val (.long q3), .second, .val (.int p4), .val (.int p5), .val (.int cc), .val (.long pp), .second, .val (.long pm), .second, .unset, .unset, .unset, .unset, .unset, .unset, .unset, .unset, .unset, .unset, .unset, .unset] [(.int p4)])) rfl (hb hby at_38) _ ?_
    show Steps p.tables e below (T273.setTop (mkF m 40 #[.val (.int p0), .val (.long q1), .second, .val (.long q2), .second, .val (.long q3), .second, .val (.int p4), .val (.int p5), .val (.int cc), .val (.long pp), .second, .val (.long pm), .second, .unset, .unset, .unset, .unset, .unset, .unset, .unset, .unset, .unset, .unset, .unset, .unset] [(.int (2147483647 : Int32)), (.int p4)])) _
    refine XS.iand X273.here hx rfl (hb hby at_40) rfl ?_
    show Steps p.tables e below (T273.setTop (mkF m 41 #[.val (.int p0), .val (.long q1), .second, .val (.long q2), .second, .val (.long q3), .second, .val (.int p4), .val (.int p5), .val (.int cc), .val (.long pp), .second, .val (.long pm), .second, .unset, .unset, .unset, .unset, .unset, .unset, .unset, .unset, .unset, .unset, .unset, .unset] [(.int (p4 &&& (2147483647 : Int32)))])) _
    refine XS.iload X273.here hx rfl (hb hby at_41) rfl ?_
    show Steps p.tables e below (T273.setTop (mkF m 43 #[.val (.int p0), .val (.long q1), .second, .val (.long q2), .second, .val (.long q3), .second, .val (.int p4), .val (.int p5), .val (.int cc), .val (.long pp), .second, .val (.long pm), .second, .unset, .unset, .unset, .unset, .unset, .unset, .unset, .unset, .unset, .unset, .unset, .unset] [(.int cc), (.int (p4 &&& (2147483647 : Int32)))])) _
    refine iremM X273 hx rfl (hb hby at_43) rfl (own_ne hcc) ?_
    show Steps p.tables e below (T273.setTop (mkF m 44 #[.val (.int p0), .val (.long q1), .second, .val (.long q2), .second, .val (.long q3), .second, .val (.int p4), .val (.int p5), .val (.int cc), .val (.long pp), .second, .val (.long pm), .second, .unset, .unset, .unset, .unset, .unset, .unset, .unset, .unset, .unset, .unset, .unset, .unset] [(.int ((p4 &&& (2147483647 : Int32)) % cc))])) _
    refine XS.istore X273.here hx rfl (hb hby at_44) rfl (l' := #[.val (.int p0), .val (.long q1), .second, .val (.long q2), .second, .val (.long q3), .second, .val (.int p4), .val (.int p5), .val (.int cc), .val (.long pp), .second, .val (.long pm), .second, .val (.int ((p4 &&& (2147483647 : Int32)) % cc)), .unset, .unset, .unset, .unset, .unset, .unset, .unset, .unset, .unset, .unset, .unset]) rfl ?_
    exact kt
  obtain ⟨k1, hd_k1⟩ : ∃ z, z = ((p4 &&& (2147483647 : Int32)) % cc) := ⟨_, rfl⟩
  rw [← hd_k1] at S277
  obtain ⟨hk1, hk1c⟩ := own_k hcc hd_k1
  have hck := own_sub hk1 hk1c
  have hckp : 1 ≤ (cc - k1).toInt := by omega
  have S278 : ∀ t, Steps p.tables e below (T273.setTop (mkF m 59 #[.val (.int p0), .val (.long q1), .second, .val (.long q2), .second, .val (.long q3), .second, .val (.int p4), .val (.int p5), .val (.int cc), .val (.long pp), .second, .val (.long pm), .second, .val (.int k1), .val (.int ((p5 &&& (2147483647 : Int32)) % (cc - k1))), .unset, .unset, .unset, .unset, .unset, .unset, .unset, .unset, .unset, .unset] [])) t → Steps p.tables e below (s₁.setTop (entryFrame m #[(.int p0), (.long q1), (.long q2), (.long q3), (.int p4), (.int p5)] maxLocals)) t := by
    intro t kt
    refine S277 _ ?_
    show Steps p.tables e below (T273.setTop (mkF m 46 #[.val (.int p0), .val (.long q1), .second, .val (.long q2), .second, .val (.long q3), .second, .val (.int p4), .val (.int p5), .val (.int cc), .val (.long pp), .second, .val (.long pm), .second, .val (.int k1), .unset, .unset, .unset, .unset, .unset, .unset, .unset, .unset, .unset, .unset, .unset] [])) _
    refine XS.iload X273.here hx rfl (hb hby at_46) rfl ?_
    show Steps p.tables e below (T273.setTop (mkF m 48 #[.val (.int p0), .val (.long q1), .second, .val (.long q2), .second, .val (.long q3), .second, .val (.int p4), .val (.int p5), .val (.int cc), .val (.long pp), .second, .val (.long pm), .second, .val (.int k1), .unset, .unset, .unset, .unset, .unset, .unset, .unset, .unset, .unset, .unset, .unset] [(.int p5)])) _
    refine X273.ldcInt hx hown (mvT hZ (hw _ (List.mem_of_getElem? (i := 0) rfl))) (g := (mkF m 48 #[.val (.int p0), .val (.long q1), .second, .val (.long q2), .second, .val (.long q3), .second, .val (.int p4), .val (.int p5), .val (.int cc), .val (.long pp), .second, .val (.long pm), .second, .val (.int k1), .unset, .unset, .unset, .unset, .unset, .unset, .unset, .unset, .unset, .unset, .unset] [(.int p5)])) rfl (hb hby at_48) _ ?_
    show Steps p.tables e below (T273.setTop (mkF m 50 #[.val (.int p0), .val (.long q1), .second, .val (.long q2), .second, .val (.long q3), .second, .val (.int p4), .val (.int p5), .val (.int cc), .val (.long pp), .second, .val (.long pm), .second, .val (.int k1), .unset, .unset, .unset, .unset, .unset, .unset, .unset, .unset, .unset, .unset, .unset] [(.int (2147483647 : Int32)), (.int p5)])) _
    refine XS.iand X273.here hx rfl (hb hby at_50) rfl ?_
    show Steps p.tables e below (T273.setTop (mkF m 51 #[.val (.int p0), .val (.long q1), .second, .val (.long q2), .second, .val (.long q3), .second, .val (.int p4), .val (.int p5), .val (.int cc), .val (.long pp), .second, .val (.long pm), .second, .val (.int k1), .unset, .unset, .unset, .unset, .unset, .unset, .unset, .unset, .unset, .unset, .unset] [(.int (p5 &&& (2147483647 : Int32)))])) _
    refine XS.iload X273.here hx rfl (hb hby at_51) rfl ?_
    show Steps p.tables e below (T273.setTop (mkF m 53 #[.val (.int p0), .val (.long q1), .second, .val (.long q2), .second, .val (.long q3), .second, .val (.int p4), .val (.int p5), .val (.int cc), .val (.long pp), .second, .val (.long pm), .second, .val (.int k1), .unset, .unset, .unset, .unset, .unset, .unset, .unset, .unset, .unset, .unset, .unset] [(.int cc), (.int (p5 &&& (2147483647 : Int32)))])) _
    refine XS.iload X273.here hx rfl (hb hby at_53) rfl ?_
    show Steps p.tables e below (T273.setTop (mkF m 55 #[.val (.int p0), .val (.long q1), .second, .val (.long q2), .second, .val (.long q3), .second, .val (.int p4), .val (.int p5), .val (.int cc), .val (.long pp), .second, .val (.long pm), .second, .val (.int k1), .unset, .unset, .unset, .unset, .unset, .unset, .unset, .unset, .unset, .unset, .unset] [(.int k1), (.int cc), (.int (p5 &&& (2147483647 : Int32)))])) _
    refine XS.isub X273.here hx rfl (hb hby at_55) rfl ?_
    show Steps p.tables e below (T273.setTop (mkF m 56 #[.val (.int p0), .val (.long q1), .second, .val (.long q2), .second, .val (.long q3), .second, .val (.int p4), .val (.int p5), .val (.int cc), .val (.long pp), .second, .val (.long pm), .second, .val (.int k1), .unset, .unset, .unset, .unset, .unset, .unset, .unset, .unset, .unset, .unset, .unset] [(.int (cc - k1)), (.int (p5 &&& (2147483647 : Int32)))])) _
    refine iremM X273 hx rfl (hb hby at_56) rfl (own_ne hckp) ?_
    show Steps p.tables e below (T273.setTop (mkF m 57 #[.val (.int p0), .val (.long q1), .second, .val (.long q2), .second, .val (.long q3), .second, .val (.int p4), .val (.int p5), .val (.int cc), .val (.long pp), .second, .val (.long pm), .second, .val (.int k1), .unset, .unset, .unset, .unset, .unset, .unset, .unset, .unset, .unset, .unset, .unset] [(.int ((p5 &&& (2147483647 : Int32)) % (cc - k1)))])) _
    refine XS.istore X273.here hx rfl (hb hby at_57) rfl (l' := #[.val (.int p0), .val (.long q1), .second, .val (.long q2), .second, .val (.long q3), .second, .val (.int p4), .val (.int p5), .val (.int cc), .val (.long pp), .second, .val (.long pm), .second, .val (.int k1), .val (.int ((p5 &&& (2147483647 : Int32)) % (cc - k1))), .unset, .unset, .unset, .unset, .unset, .unset, .unset, .unset, .unset, .unset]) rfl ?_
    exact kt
  obtain ⟨k2, hd_k2⟩ : ∃ z, z = ((p5 &&& (2147483647 : Int32)) % (cc - k1)) := ⟨_, rfl⟩
  rw [← hd_k2] at S278
  obtain ⟨hk2, hk2c⟩ := own_k hckp hd_k2
  have hkk : k1.toInt + k2.toInt < cc.toInt := by omega
  have hD := own_D2 hcc hpp hcp hk1 hk2 hkk
  have hDb : 1 ≤ ((((0 : Int64) + pp) + ((k1.toInt64) * pp)) + ((k2.toInt64) * pp)).toInt ∧ ((((0 : Int64) + pp) + ((k1.toInt64) * pp)) + ((k2.toInt64) * pp)).toInt ≤ 4503599627370496 := by
    have m1 : (1 + k1.toInt + k2.toInt) * pp.toInt ≤ cc.toInt * pp.toInt := Int.mul_le_mul_of_nonneg_right (by omega) (by omega)
    have m2 : 1 * 1 ≤ (1 + k1.toInt + k2.toInt) * pp.toInt := Int.mul_le_mul (by omega) hpp (by decide) (by omega)
    omega
  obtain ⟨T279, h279, X279, e279, E279, A279, D279, -, st279⟩ := newO X273 hx hZ hown (hw _ (List.mem_of_getElem? (i := 8) rfl)) (hw _ (List.mem_of_getElem? (i := 9) rfl)) (hw _ (List.mem_of_getElem? (i := 10) rfl)) e273 (g := (mkF m 59 #[.val (.int p0), .val (.long q1), .second, .val (.long q2), .second, .val (.long q3), .second, .val (.int p4), .val (.int p5), .val (.int cc), .val (.long pp), .second, .val (.long pm), .second, .val (.int k1), .val (.int k2), .unset, .unset, .unset, .unset, .unset, .unset, .unset, .unset, .unset, .unset] [])) rfl (hb hby at_59) (by decide) (by decide)
  obtain ⟨b279, g279⟩ : ∃ z, z = h0.size := ⟨_, rfl⟩
  rw [← g279] at A279 D279 st279
  have ge_b279 : n0 ≤ b279 := Nat.le_trans Z0 (Nat.le_of_eq g279.symm)
  have sz_b279 : h0.size ≤ b279 := Nat.le_of_eq g279.symm
  have K280 : Keep h0 h279 [] := (Keep.refl h0 []).ext E279
  have F281 : Fld Z h279 b279 "com/example/even_bucket/evenbucket/GreedyBucket" "capacity" "I" (.int (0 : Int32)) := D279 (Or.inr (hw _ (List.mem_of_getElem? (i := 18) rfl))) (ty := .int) (by decide)
  have F282 : Fld Z h279 b279 "com/example/even_bucket/evenbucket/GreedyBucket" "unitsPerMilli" "J" (.long (0 : Int64)) := D279 (Or.inr (hw _ (List.mem_of_getElem? (i := 20) rfl))) (ty := .long) (by decide)
  have F283 : Fld Z h279 b279 "com/example/even_bucket/evenbucket/GreedyBucket" "unitsPerPermit" "J" (.long (0 : Int64)) := D279 (Or.inr (hw _ (List.mem_of_getElem? (i := 22) rfl))) (ty := .long) (by decide)
  have F284 : Fld Z h279 b279 "com/example/even_bucket/evenbucket/GreedyBucket" "mostDeficitWithAPermit" "J" (.long (0 : Int64)) := D279 (Or.inr (hw _ (List.mem_of_getElem? (i := 24) rfl))) (ty := .long) (by decide)
  have F285 : Fld Z h279 b279 "com/example/even_bucket/evenbucket/GreedyBucket" "admitted" "Z" (.int (0 : Int32)) := D279 (Or.inl (hw _ (List.mem_of_getElem? (i := 31) rfl))) (ty := .boolean) (by decide)
  have F286 : Fld Z h279 b279 "com/example/even_bucket/evenbucket/GreedyBucket" "decidedAt" "J" (.long (0 : Int64)) := D279 (Or.inl (hw _ (List.mem_of_getElem? (i := 33) rfl))) (ty := .long) (by decide)
  have F287 : Fld Z h279 b279 "com/example/even_bucket/evenbucket/GreedyBucket" "newest" "J" (.long (0 : Int64)) := D279 (Or.inl (hw _ (List.mem_of_getElem? (i := 39) rfl))) (ty := .long) (by decide)
  have F288 : Fld Z h279 b279 "com/example/even_bucket/evenbucket/GreedyBucket" "deficit" "J" (.long (0 : Int64)) := D279 (Or.inl (hw _ (List.mem_of_getElem? (i := 41) rfl))) (ty := .long) (by decide)
  obtain ⟨_, _, ⟨T289, L289, k289, n289⟩, -, X289, ⟨Lc289, hQ289, l289, y289, z289⟩, st289⟩ := X279.specialBack hx (y := (⟨"com/example/even_bucket/evenbucket/GreedyBucket", "<init>", "(IJJ)V"⟩ : MethodName)) rfl hown (mvT hZ (hw _ (List.mem_of_getElem? (i := 11) rfl))) (mvT hZ (hw _ (List.mem_of_getElem? (i := 12) rfl))) (mvT hZ (hw _ (List.mem_of_getElem? (i := 13) rfl))) (by decide) (backOf (W := 1) (rm2 l Z a0 hw [] b279 cc pm pp h279 n0 (Nat.le_trans Z0 K280.1) F281 F282 F283 F284 F288 F287 F285 F286 A279 ge_b279) hZ (hw _ (List.mem_of_getElem? (i := 13) rfl)) (hw _ (List.mem_of_getElem? (i := 10) rfl)) (by decide) (by decide)) (g := (mkF m 69 #[.val (.int p0), .val (.long q1), .second, .val (.long q2), .second, .val (.long q3), .second, .val (.int p4), .val (.int p5), .val (.int cc), .val (.long pp), .second, .val (.long pm), .second, .val (.int k1), .val (.int k2), .unset, .unset, .unset, .unset, .unset, .unset, .unset, .unset, .unset, .unset] [(.long pp), (.long pm), (.int cc), (.ref b279), (.ref b279)])) rfl (by rw [hml]; rfl) (Steps.refl _) (a := b279) (argsL := [(.int cc), (.long pm), (.long pp)]) (rest := [(.ref b279)]) (lenOf pd__IJJ_V rfl) rfl (by show 2 * 0 + _ ≤ _; exact Nat.le_of_eq rfl) (hb hby at_69) (fun _ _ => ⟨rfl, e279, (by decide : 1 + 0 ≤ _), (by decide : 8 + 0 ≤ _)⟩)
  dsimp only [Pt.U, Pt.locs, Pt.cells, Pt.slots] at X289 l289 y289 z289 st289 hQ289
  subst l289 y289 z289
  obtain ⟨rfl, Nq289, Kq289, f289_0, f289_1, f289_2, f289_3, f289_4, f289_5, f289_6, f289_7⟩ := hQ289
  have K290 : Keep h0 T289.heap [] := K280.trans Kq289 (fun x hx => by cases List.mem_singleton.mp hx; exact Or.inr sz_b279)
  have N289 := Fr.app N273 Nq289
  have c291 : Exa Z T289.heap b279 "com/example/even_bucket/evenbucket/GreedyBucket" := (A279.keep Kq289)
  have c293 : Sta Z T289.heap "java/time/Duration" "ZERO" "Ljava/time/Duration;" (.ref vz) := (own_sta_keepw (Sz.ext E279) Kq289 (fun x hx => by cases List.mem_singleton.mp hx; exact own_plain A279))
  obtain ⟨cq292, kq292, q292a, q292b, q292c⟩ := isOf hZ rfl c291
  obtain ⟨_, _, ⟨T292, L292, k292, n292⟩, -, X292, ⟨Lc292, hQ292, l292, y292, z292⟩, st292⟩ := X289.virtualBack hx (y := (⟨"com/example/even_bucket/evenbucket/GreedyBucket", "tryAcquire", "(J)Lcom/example/even_bucket/evenbucket/Decision;"⟩ : MethodName)) (z := (⟨"com/example/even_bucket/evenbucket/GreedyBucket", "tryAcquire", "(J)Lcom/example/even_bucket/evenbucket/Decision;"⟩ : MethodName)) hown (mvT hZ (hw _ (List.mem_of_getElem? (i := 25) rfl))) (mvT hZ (hw _ (List.mem_of_getElem? (i := 26) rfl))) (notFace_of_selects (args := #[]) (mvT hZ (hw _ (List.mem_of_getElem? (i := 28) rfl)))) (mvT hZ (hw _ (List.mem_of_getElem? (i := 28) rfl))) (mvT hZ (hw _ (List.mem_of_getElem? (i := 27) rfl))) (by decide) (backOf (W := 0) (rm4 l Z a0 hw [] b279 q3 cc pm pp (((cc - (1 : Int32)).toInt64) * pp) vz T289.heap n0 (Nat.le_trans Z0 K290.1) f289_0 f289_1 f289_2 f289_3 f289_4 f289_5 f289_6 f289_7 c291 ge_b279 c293 hpm (fun e => by rw [e] at hpp; exact absurd hpp (by decide)) (own_hs hcc hpp hcp) (own_hf hcc hpp hcp)) hZ (hw _ (List.mem_of_getElem? (i := 29) rfl)) (hw _ (List.mem_of_getElem? (i := 10) rfl)) (by decide) (by decide)) q292a q292c (g := (mkF m 78 #[.val (.int p0), .val (.long q1), .second, .val (.long q2), .second, .val (.long q3), .second, .val (.int p4), .val (.int p5), .val (.int cc), .val (.long pp), .second, .val (.long pm), .second, .val (.int k1), .val (.int k2), .val (.ref b279), .unset, .unset, .unset, .unset, .unset, .unset, .unset, .unset, .unset] [(.long q3), (.ref b279)])) rfl (by rw [hml]; rfl) (Steps.refl _) (argsL := [(.long q3)]) (rest := []) (lenOf pd__J_Lcom_example_even_bucket_evenbucket_Decision_ rfl) rfl (by show 2 * 0 + _ ≤ _; exact Nat.le_of_eq rfl) (hb hby at_78) (fun _ _ => ⟨rfl, rfl, (by decide : 1 + 1 ≤ _), (by decide : 8 + 3 ≤ _)⟩)
  dsimp only [Pt.U, Pt.locs, Pt.cells, Pt.slots] at X292 l292 y292 z292 st292 hQ292
  subst l292 y292 z292
  obtain ⟨bb_292, rfl, Nq292, Kq292, f292_0, f292_1, f292_2, f292_3, f292_4, f292_5, f292_6, f292_7⟩ := hQ292
  have K294 : Keep h0 T292.heap [] := K290.trans Kq292 (fun x hx => by cases List.mem_singleton.mp hx; exact Or.inr sz_b279)
  have N292 := Fr.app N289 Nq292
  have c295 : Exa Z T292.heap b279 "com/example/even_bucket/evenbucket/GreedyBucket" := (c291.keep Kq292)
  obtain ⟨cq296, kq296, q296a, q296b, q296c⟩ := isOf hZ rfl c295
  obtain ⟨_, _, ⟨T296, L296, k296, n296⟩, -, X296, ⟨Lc296, hQ296, l296, y296, z296⟩, st296⟩ := X292.virtualBack hx (y := (⟨"com/example/even_bucket/evenbucket/GreedyBucket", "recordAtLatestDecision", "(I)V"⟩ : MethodName)) (z := (⟨"com/example/even_bucket/evenbucket/GreedyBucket", "recordAtLatestDecision", "(I)V"⟩ : MethodName)) hown (mvT hZ (hw _ (List.mem_of_getElem? (i := 75) rfl))) (mvT hZ (hw _ (List.mem_of_getElem? (i := 76) rfl))) (notFace_of_selects (args := #[]) (mvT hZ (hw _ (List.mem_of_getElem? (i := 78) rfl)))) (mvT hZ (hw _ (List.mem_of_getElem? (i := 78) rfl))) (mvT hZ (hw _ (List.mem_of_getElem? (i := 77) rfl))) (by decide) (backOf (W := 0) (rm12 l Z a0 hw [] b279 k1 cc pm pp (((cc - (1 : Int32)).toInt64) * pp) ((0 : Int64) + pp) q3 (1 : Int32) q3 T292.heap n0 (Nat.le_trans Z0 K294.1) f292_0 f292_1 f292_2 f292_3 f292_4 f292_5 f292_6 f292_7 c295 ge_b279) hZ (hw _ (List.mem_of_getElem? (i := 79) rfl)) (hw _ (List.mem_of_getElem? (i := 10) rfl)) (by decide) (by decide)) q296a q296c (g := (mkF m 86 #[.val (.int p0), .val (.long q1), .second, .val (.long q2), .second, .val (.long q3), .second, .val (.int p4), .val (.int p5), .val (.int cc), .val (.long pp), .second, .val (.long pm), .second, .val (.int k1), .val (.int k2), .val (.ref b279), .unset, .unset, .unset, .unset, .unset, .unset, .unset, .unset, .unset] [(.int k1), (.ref b279)])) rfl (by rw [hml]; rfl) (Steps.refl _) (argsL := [(.int k1)]) (rest := []) (lenOf pd__I_V rfl) rfl (by show 2 * 0 + _ ≤ _; exact Nat.le_of_eq rfl) (hb hby at_86) (fun _ _ => ⟨rfl, rfl, (by decide : 2 + 0 ≤ _), (by decide : 11 + 0 ≤ _)⟩)
  dsimp only [Pt.U, Pt.locs, Pt.cells, Pt.slots] at X296 l296 y296 z296 st296 hQ296
  subst l296 y296 z296
  obtain ⟨rfl, Nq296, Kq296, f296_0, f296_1, f296_2, f296_3, f296_4, f296_5, f296_6, f296_7⟩ := hQ296
  have K297 : Keep h0 T296.heap [] := K294.trans Kq296 (fun x hx => by cases List.mem_singleton.mp hx; exact Or.inr sz_b279)
  have N296 := Fr.app N292 Nq296
  have c298 : Exa Z T296.heap b279 "com/example/even_bucket/evenbucket/GreedyBucket" := (c295.keep Kq296)
  obtain ⟨cq299, kq299, q299a, q299b, q299c⟩ := isOf hZ rfl c298
  obtain ⟨_, _, ⟨T299, L299, k299, n299⟩, -, X299, ⟨Lc299, hQ299, l299, y299, z299⟩, st299⟩ := X296.virtualBack hx (y := (⟨"com/example/even_bucket/evenbucket/GreedyBucket", "recordAtLatestDecision", "(I)V"⟩ : MethodName)) (z := (⟨"com/example/even_bucket/evenbucket/GreedyBucket", "recordAtLatestDecision", "(I)V"⟩ : MethodName)) hown (mvT hZ (hw _ (List.mem_of_getElem? (i := 75) rfl))) (mvT hZ (hw _ (List.mem_of_getElem? (i := 76) rfl))) (notFace_of_selects (args := #[]) (mvT hZ (hw _ (List.mem_of_getElem? (i := 78) rfl)))) (mvT hZ (hw _ (List.mem_of_getElem? (i := 78) rfl))) (mvT hZ (hw _ (List.mem_of_getElem? (i := 77) rfl))) (by decide) (backOf (W := 0) (rm12 l Z a0 hw [] b279 k2 cc pm pp (((cc - (1 : Int32)).toInt64) * pp) (((0 : Int64) + pp) + ((k1.toInt64) * pp)) q3 (1 : Int32) q3 T296.heap n0 (Nat.le_trans Z0 K297.1) f296_0 f296_1 f296_2 f296_3 f296_4 f296_5 f296_6 f296_7 c298 ge_b279) hZ (hw _ (List.mem_of_getElem? (i := 79) rfl)) (hw _ (List.mem_of_getElem? (i := 10) rfl)) (by decide) (by decide)) q299a q299c (g := (mkF m 93 #[.val (.int p0), .val (.long q1), .second, .val (.long q2), .second, .val (.long q3), .second, .val (.int p4), .val (.int p5), .val (.int cc), .val (.long pp), .second, .val (.long pm), .second, .val (.int k1), .val (.int k2), .val (.ref b279), .unset, .unset, .unset, .unset, .unset, .unset, .unset, .unset, .unset] [(.int k2), (.ref b279)])) rfl (by rw [hml]; rfl) (Steps.refl _) (argsL := [(.int k2)]) (rest := []) (lenOf pd__I_V rfl) rfl (by show 2 * 0 + _ ≤ _; exact Nat.le_of_eq rfl) (hb hby at_93) (fun _ _ => ⟨rfl, rfl, (by decide : 2 + 0 ≤ _), (by decide : 11 + 0 ≤ _)⟩)
  dsimp only [Pt.U, Pt.locs, Pt.cells, Pt.slots] at X299 l299 y299 z299 st299 hQ299
  subst l299 y299 z299
  obtain ⟨rfl, Nq299, Kq299, f299_0, f299_1, f299_2, f299_3, f299_4, f299_5, f299_6, f299_7⟩ := hQ299
  have K300 : Keep h0 T299.heap [] := K297.trans Kq299 (fun x hx => by cases List.mem_singleton.mp hx; exact Or.inr sz_b279)
  have N299 := Fr.app N296 Nq299
  have c301 : Exa Z T299.heap b279 "com/example/even_bucket/evenbucket/GreedyBucket" := (c298.keep Kq299)
  obtain ⟨cq302, kq302, q302a, q302b, q302c⟩ := isOf hZ rfl c301
  obtain ⟨_, _, ⟨T302, L302, k302, n302⟩, -, X302, hS302, gr302, ⟨Lc302, hQ302, l302, y302, z302⟩, st302⟩ := X299.virtualBackS hx (y := (⟨"com/example/even_bucket/evenbucket/GreedyBucket", "moment", "()Lcom/example/even_bucket/evenbucket/Admissions$Moment;"⟩ : MethodName)) (z := (⟨"com/example/even_bucket/evenbucket/GreedyBucket", "moment", "()Lcom/example/even_bucket/evenbucket/Admissions$Moment;"⟩ : MethodName)) hown (mvT hZ (hw _ (List.mem_of_getElem? (i := 80) rfl))) (mvT hZ (hw _ (List.mem_of_getElem? (i := 81) rfl))) (notFace_of_selects (args := #[]) (mvT hZ (hw _ (List.mem_of_getElem? (i := 83) rfl)))) (mvT hZ (hw _ (List.mem_of_getElem? (i := 83) rfl))) (mvT hZ (hw _ (List.mem_of_getElem? (i := 82) rfl))) (by decide) (backOfS (W := 0) (rm13 l Z a0 hw [] b279 cc pm pp (((cc - (1 : Int32)).toInt64) * pp) ((((0 : Int64) + pp) + ((k1.toInt64) * pp)) + ((k2.toInt64) * pp)) q3 (1 : Int32) q3 T299.heap n0 (Nat.le_trans Z0 K300.1) f299_0 f299_1 f299_2 f299_3 f299_4 f299_5 f299_6 f299_7 c301 (own_nz hpm) (fun e => by rw [e] at hpp; exact absurd hpp (by decide)) (own_hd hDb hpm) (own_hx hcc hpp hcp hD (by omega) (by omega) hpm)) hZ (hw _ (List.mem_of_getElem? (i := 84) rfl)) (hw _ (List.mem_of_getElem? (i := 10) rfl)) (by decide) (by decide)) q302a q302c (g := (mkF m 98 #[.val (.int p0), .val (.long q1), .second, .val (.long q2), .second, .val (.long q3), .second, .val (.int p4), .val (.int p5), .val (.int cc), .val (.long pp), .second, .val (.long pm), .second, .val (.int k1), .val (.int k2), .val (.ref b279), .unset, .unset, .unset, .unset, .unset, .unset, .unset, .unset, .unset] [(.ref b279)])) rfl (by rw [hml]; rfl) (Steps.refl _) (argsL := []) (rest := []) (lenOf pd___Lcom_example_even_bucket_evenbucket_Admissions_Moment_ rfl) rfl (by show 2 * 0 + _ ≤ _; exact Nat.le_of_eq rfl) (hb hby at_98) (fun _ _ => ⟨rfl, rfl, (by decide : 2 + 6 ≤ _), (by decide : 11 + 55 ≤ _)⟩)
  dsimp only [Pt.U, Pt.locs, Pt.cells, Pt.slots] at X302 l302 y302 z302 st302 hQ302
  subst l302 y302 z302
  dsimp only [Pt.U, Pt.locs, Pt.cells, Pt.slots] at hS302 gr302
  obtain ⟨bb_302, rfl, Nq302, Kq302, f302_0, f302_1, f302_2, f302_3, f302_4⟩ := hQ302
  have K303 : Keep h0 T302.heap [] := K300.trans Kq302 (fun x hx => by simp at hx)
  have N302 := Fr.app N299 Nq302
  have hZ302 : Z.Warmed39 (s.setVm T302.vm).vm := State.Warmed39.trans (t := s) hZ hS302.1
  have hown302 : (s.setVm T302.vm).vm.findClass "com/example/even_bucket/evenbucket/GreedyBucketRecordAtLatestDecisionPinLaw" = some m.cls := (hS302.1.alike.findClass _ _).trans hown
  have ge_bb_302 : n0 ≤ bb_302 := Nat.le_trans (Nat.le_trans Z0 K300.1) f302_0
  have sz_bb_302 : h0.size ≤ bb_302 := Nat.le_trans K300.1 f302_0
  have c304 : Exa Z T302.heap b279 "com/example/even_bucket/evenbucket/GreedyBucket" := (c301.keep Kq302)
  have c306 : Fld Z T302.heap b279 "com/example/even_bucket/evenbucket/GreedyBucket" "unitsPerMilli" "J" (.long pm) := (f299_1.keep Kq302 List.not_mem_nil)
  have c307 : Fld Z T302.heap b279 "com/example/even_bucket/evenbucket/GreedyBucket" "deficit" "J" (.long ((((0 : Int64) + pp) + ((k1.toInt64) * pp)) + ((k2.toInt64) * pp))) := (f299_4.keep Kq302 List.not_mem_nil)
  have c308 : Fld Z T302.heap b279 "com/example/even_bucket/evenbucket/GreedyBucket" "newest" "J" (.long q3) := (f299_5.keep Kq302 List.not_mem_nil)
  obtain ⟨cq305, kq305, q305a, q305b, q305c⟩ := isOf hZ302 rfl c304
  obtain ⟨_, _, ⟨T305, L305, k305, n305⟩, -, X305, ⟨Lc305, hQ305, l305, y305, z305⟩, st305⟩ := X302.virtualBack hx (y := (⟨"com/example/even_bucket/evenbucket/GreedyBucket", "idleAfter", "()J"⟩ : MethodName)) (z := (⟨"com/example/even_bucket/evenbucket/GreedyBucket", "idleAfter", "()J"⟩ : MethodName)) hown302 (mvT hZ302 (hw _ (List.mem_of_getElem? (i := 163) rfl))) (mvT hZ302 (hw _ (List.mem_of_getElem? (i := 164) rfl))) (notFace_of_selects (args := #[]) (mvT hZ302 (hw _ (List.mem_of_getElem? (i := 166) rfl)))) (mvT hZ302 (hw _ (List.mem_of_getElem? (i := 166) rfl))) (mvT hZ302 (hw _ (List.mem_of_getElem? (i := 165) rfl))) (by decide) (backOf (W := 0) (rm26 l Z a0 hw [] b279 pm ((((0 : Int64) + pp) + ((k1.toInt64) * pp)) + ((k2.toInt64) * pp)) q3 T302.heap n0 (Nat.le_trans Z0 K303.1) c306 c307 c308 (own_nz hpm)) hZ302 (hw _ (List.mem_of_getElem? (i := 167) rfl)) (hw _ (List.mem_of_getElem? (i := 10) rfl)) (by decide) (by decide)) q305a q305c (g := (mkF m 105 #[.val (.int p0), .val (.long q1), .second, .val (.long q2), .second, .val (.long q3), .second, .val (.int p4), .val (.int p5), .val (.int cc), .val (.long pp), .second, .val (.long pm), .second, .val (.int k1), .val (.int k2), .val (.ref b279), .val (.ref bb_302), .unset, .unset, .unset, .unset, .unset, .unset, .unset, .unset] [(.ref b279)])) rfl (by rw [hml]; rfl) (Steps.refl _) (argsL := []) (rest := []) (lenOf pd___J rfl) rfl (by show 2 * 0 + _ ≤ _; exact Nat.le_of_eq rfl) (hb hby at_105) (fun _ _ => ⟨rfl, rfl, (by decide : 8 + 0 ≤ _), (by decide : 66 + 0 ≤ _)⟩)
  dsimp only [Pt.U, Pt.locs, Pt.cells, Pt.slots] at X305 l305 y305 z305 st305 hQ305
  subst l305 y305 z305
  obtain ⟨rfl, Nq305, e305⟩ := hQ305
  have N305 := Fr.app N302 Nq305
  have S309 : ∀ t, Steps p.tables e below (T305.setTop (mkF m 124 #[.val (.int p0), .val (.long q1), .second, .val (.long q2), .second, .val (.long q3), .second, .val (.int p4), .val (.int p5), .val (.int cc), .val (.long pp), .second, .val (.long pm), .second, .val (.int k1), .val (.int k2), .val (.ref b279), .val (.ref bb_302), .val (.long (f_later q3 (f_dru ((((0 : Int64) + pp) + ((k1.toInt64) * pp)) + ((k2.toInt64) * pp)) pm))), .second, .val (.long ((((1 : Int64) + (k1.toInt64)) + (k2.toInt64)) * pp)), .second, .unset, .unset, .unset, .unset] [])) t → Steps p.tables e below (s₁.setTop (entryFrame m #[(.int p0), (.long q1), (.long q2), (.long q3), (.int p4), (.int p5)] maxLocals)) t := by
    intro t kt
    refine S278 _ ?_
    show Steps p.tables e below (T273.setTop (mkF m 59 #[.val (.int p0), .val (.long q1), .second, .val (.long q2), .second, .val (.long q3), .second, .val (.int p4), .val (.int p5), .val (.int cc), .val (.long pp), .second, .val (.long pm), .second, .val (.int k1), .val (.int k2), .unset, .unset, .unset, .unset, .unset, .unset, .unset, .unset, .unset, .unset] [])) _
    refine st279 _ ?_
    show Steps p.tables e below (T279.setTop (mkF m 62 #[.val (.int p0), .val (.long q1), .second, .val (.long q2), .second, .val (.long q3), .second, .val (.int p4), .val (.int p5), .val (.int cc), .val (.long pp), .second, .val (.long pm), .second, .val (.int k1), .val (.int k2), .unset, .unset, .unset, .unset, .unset, .unset, .unset, .unset, .unset, .unset] [(.ref b279)])) _
    refine XS.dup X279.here hx rfl (hb hby at_62) rfl rfl ?_
    show Steps p.tables e below (T279.setTop (mkF m 63 #[.val (.int p0), .val (.long q1), .second, .val (.long q2), .second, .val (.long q3), .second, .val (.int p4), .val (.int p5), .val (.int cc), .val (.long pp), .second, .val (.long pm), .second, .val (.int k1), .val (.int k2), .unset, .unset, .unset, .unset, .unset, .unset, .unset, .unset, .unset, .unset] [(.ref b279), (.ref b279)])) _
    refine XS.iload X279.here hx rfl (hb hby at_63) rfl ?_
    show Steps p.tables e below (T279.setTop (mkF m 65 #[.val (.int p0), .val (.long q1), .second, .val (.long q2), .second, .val (.long q3), .second, .val (.int p4), .val (.int p5), .val (.int cc), .val (.long pp), .second, .val (.long pm), .second, .val (.int k1), .val (.int k2), .unset, .unset, .unset, .unset, .unset, .unset, .unset, .unset, .unset, .unset] [(.int cc), (.ref b279), (.ref b279)])) _
    refine XS.lload X279.here hx rfl (hb hby at_65) rfl ?_
    show Steps p.tables e below (T279.setTop (mkF m 67 #[.val (.int p0), .val (.long q1), .second, .val (.long q2), .second, .val (.long q3), .second, .val (.int p4), .val (.int p5), .val (.int cc), .val (.long pp), .second, .val (.long pm), .second, .val (.int k1), .val (.int k2), .unset, .unset, .unset, .unset, .unset, .unset, .unset, .unset, .unset, .unset] [(.long pm), (.int cc), (.ref b279), (.ref b279)])) _
    refine XS.lload X279.here hx rfl (hb hby at_67) rfl ?_
    show Steps p.tables e below (T279.setTop (mkF m 69 #[.val (.int p0), .val (.long q1), .second, .val (.long q2), .second, .val (.long q3), .second, .val (.int p4), .val (.int p5), .val (.int cc), .val (.long pp), .second, .val (.long pm), .second, .val (.int k1), .val (.int k2), .unset, .unset, .unset, .unset, .unset, .unset, .unset, .unset, .unset, .unset] [(.long pp), (.long pm), (.int cc), (.ref b279), (.ref b279)])) _
    refine st289.trans ?_
    show Steps p.tables e below (T289.setTop (mkF m 72 #[.val (.int p0), .val (.long q1), .second, .val (.long q2), .second, .val (.long q3), .second, .val (.int p4), .val (.int p5), .val (.int cc), .val (.long pp), .second, .val (.long pm), .second, .val (.int k1), .val (.int k2), .unset, .unset, .unset, .unset, .unset, .unset, .unset, .unset, .unset, .unset] [(.ref b279)])) _
    refine XS.astore X289.here hx rfl (hb hby at_72) rfl rfl (l' := #[.val (.int p0), .val (.long q1), .second, .val (.long q2), .second, .val (.long q3), .second, .val (.int p4), .val (.int p5), .val (.int cc), .val (.long pp), .second, .val (.long pm), .second, .val (.int k1), .val (.int k2), .val (.ref b279), .unset, .unset, .unset, .unset, .unset, .unset, .unset, .unset, .unset]) rfl ?_
    show Steps p.tables e below (T289.setTop (mkF m 74 #[.val (.int p0), .val (.long q1), .second, .val (.long q2), .second, .val (.long q3), .second, .val (.int p4), .val (.int p5), .val (.int cc), .val (.long pp), .second, .val (.long pm), .second, .val (.int k1), .val (.int k2), .val (.ref b279), .unset, .unset, .unset, .unset, .unset, .unset, .unset, .unset, .unset] [])) _
    refine XS.aload X289.here hx rfl (hb hby at_74) rfl rfl ?_
    show Steps p.tables e below (T289.setTop (mkF m 76 #[.val (.int p0), .val (.long q1), .second, .val (.long q2), .second, .val (.long q3), .second, .val (.int p4), .val (.int p5), .val (.int cc), .val (.long pp), .second, .val (.long pm), .second, .val (.int k1), .val (.int k2), .val (.ref b279), .unset, .unset, .unset, .unset, .unset, .unset, .unset, .unset, .unset] [(.ref b279)])) _
    refine XS.lload X289.here hx rfl (hb hby at_76) rfl ?_
    show Steps p.tables e below (T289.setTop (mkF m 78 #[.val (.int p0), .val (.long q1), .second, .val (.long q2), .second, .val (.long q3), .second, .val (.int p4), .val (.int p5), .val (.int cc), .val (.long pp), .second, .val (.long pm), .second, .val (.int k1), .val (.int k2), .val (.ref b279), .unset, .unset, .unset, .unset, .unset, .unset, .unset, .unset, .unset] [(.long q3), (.ref b279)])) _
    refine st292.trans ?_
    show Steps p.tables e below (T292.setTop (mkF m 81 #[.val (.int p0), .val (.long q1), .second, .val (.long q2), .second, .val (.long q3), .second, .val (.int p4), .val (.int p5), .val (.int cc), .val (.long pp), .second, .val (.long pm), .second, .val (.int k1), .val (.int k2), .val (.ref b279), .unset, .unset, .unset, .unset, .unset, .unset, .unset, .unset, .unset] [(.ref bb_292)])) _
    refine XS.pop X292.here hx rfl (hb hby at_81) rfl rfl ?_
    show Steps p.tables e below (T292.setTop (mkF m 82 #[.val (.int p0), .val (.long q1), .second, .val (.long q2), .second, .val (.long q3), .second, .val (.int p4), .val (.int p5), .val (.int cc), .val (.long pp), .second, .val (.long pm), .second, .val (.int k1), .val (.int k2), .val (.ref b279), .unset, .unset, .unset, .unset, .unset, .unset, .unset, .unset, .unset] [])) _
    refine XS.aload X292.here hx rfl (hb hby at_82) rfl rfl ?_
    show Steps p.tables e below (T292.setTop (mkF m 84 #[.val (.int p0), .val (.long q1), .second, .val (.long q2), .second, .val (.long q3), .second, .val (.int p4), .val (.int p5), .val (.int cc), .val (.long pp), .second, .val (.long pm), .second, .val (.int k1), .val (.int k2), .val (.ref b279), .unset, .unset, .unset, .unset, .unset, .unset, .unset, .unset, .unset] [(.ref b279)])) _
    refine XS.iload X292.here hx rfl (hb hby at_84) rfl ?_
    show Steps p.tables e below (T292.setTop (mkF m 86 #[.val (.int p0), .val (.long q1), .second, .val (.long q2), .second, .val (.long q3), .second, .val (.int p4), .val (.int p5), .val (.int cc), .val (.long pp), .second, .val (.long pm), .second, .val (.int k1), .val (.int k2), .val (.ref b279), .unset, .unset, .unset, .unset, .unset, .unset, .unset, .unset, .unset] [(.int k1), (.ref b279)])) _
    refine st296.trans ?_
    show Steps p.tables e below (T296.setTop (mkF m 89 #[.val (.int p0), .val (.long q1), .second, .val (.long q2), .second, .val (.long q3), .second, .val (.int p4), .val (.int p5), .val (.int cc), .val (.long pp), .second, .val (.long pm), .second, .val (.int k1), .val (.int k2), .val (.ref b279), .unset, .unset, .unset, .unset, .unset, .unset, .unset, .unset, .unset] [])) _
    refine XS.aload X296.here hx rfl (hb hby at_89) rfl rfl ?_
    show Steps p.tables e below (T296.setTop (mkF m 91 #[.val (.int p0), .val (.long q1), .second, .val (.long q2), .second, .val (.long q3), .second, .val (.int p4), .val (.int p5), .val (.int cc), .val (.long pp), .second, .val (.long pm), .second, .val (.int k1), .val (.int k2), .val (.ref b279), .unset, .unset, .unset, .unset, .unset, .unset, .unset, .unset, .unset] [(.ref b279)])) _
    refine XS.iload X296.here hx rfl (hb hby at_91) rfl ?_
    show Steps p.tables e below (T296.setTop (mkF m 93 #[.val (.int p0), .val (.long q1), .second, .val (.long q2), .second, .val (.long q3), .second, .val (.int p4), .val (.int p5), .val (.int cc), .val (.long pp), .second, .val (.long pm), .second, .val (.int k1), .val (.int k2), .val (.ref b279), .unset, .unset, .unset, .unset, .unset, .unset, .unset, .unset, .unset] [(.int k2), (.ref b279)])) _
    refine st299.trans ?_
    show Steps p.tables e below (T299.setTop (mkF m 96 #[.val (.int p0), .val (.long q1), .second, .val (.long q2), .second, .val (.long q3), .second, .val (.int p4), .val (.int p5), .val (.int cc), .val (.long pp), .second, .val (.long pm), .second, .val (.int k1), .val (.int k2), .val (.ref b279), .unset, .unset, .unset, .unset, .unset, .unset, .unset, .unset, .unset] [])) _
    refine XS.aload X299.here hx rfl (hb hby at_96) rfl rfl ?_
    show Steps p.tables e below (T299.setTop (mkF m 98 #[.val (.int p0), .val (.long q1), .second, .val (.long q2), .second, .val (.long q3), .second, .val (.int p4), .val (.int p5), .val (.int cc), .val (.long pp), .second, .val (.long pm), .second, .val (.int k1), .val (.int k2), .val (.ref b279), .unset, .unset, .unset, .unset, .unset, .unset, .unset, .unset, .unset] [(.ref b279)])) _
    refine st302.trans ?_
    show Steps p.tables e below (T302.setTop (mkF m 101 #[.val (.int p0), .val (.long q1), .second, .val (.long q2), .second, .val (.long q3), .second, .val (.int p4), .val (.int p5), .val (.int cc), .val (.long pp), .second, .val (.long pm), .second, .val (.int k1), .val (.int k2), .val (.ref b279), .unset, .unset, .unset, .unset, .unset, .unset, .unset, .unset, .unset] [(.ref bb_302)])) _
    refine XS.astore X302.here hx rfl (hb hby at_101) rfl rfl (l' := #[.val (.int p0), .val (.long q1), .second, .val (.long q2), .second, .val (.long q3), .second, .val (.int p4), .val (.int p5), .val (.int cc), .val (.long pp), .second, .val (.long pm), .second, .val (.int k1), .val (.int k2), .val (.ref b279), .val (.ref bb_302), .unset, .unset, .unset, .unset, .unset, .unset, .unset, .unset]) rfl ?_
    show Steps p.tables e below (T302.setTop (mkF m 103 #[.val (.int p0), .val (.long q1), .second, .val (.long q2), .second, .val (.long q3), .second, .val (.int p4), .val (.int p5), .val (.int cc), .val (.long pp), .second, .val (.long pm), .second, .val (.int k1), .val (.int k2), .val (.ref b279), .val (.ref bb_302), .unset, .unset, .unset, .unset, .unset, .unset, .unset, .unset] [])) _
    refine XS.aload X302.here hx rfl (hb hby at_103) rfl rfl ?_
    show Steps p.tables e below (T302.setTop (mkF m 105 #[.val (.int p0), .val (.long q1), .second, .val (.long q2), .second, .val (.long q3), .second, .val (.int p4), .val (.int p5), .val (.int cc), .val (.long pp), .second, .val (.long pm), .second, .val (.int k1), .val (.int k2), .val (.ref b279), .val (.ref bb_302), .unset, .unset, .unset, .unset, .unset, .unset, .unset, .unset] [(.ref b279)])) _
    refine st305.trans ?_
    show Steps p.tables e below (T305.setTop (mkF m 108 #[.val (.int p0), .val (.long q1), .second, .val (.long q2), .second, .val (.long q3), .second, .val (.int p4), .val (.int p5), .val (.int cc), .val (.long pp), .second, .val (.long pm), .second, .val (.int k1), .val (.int k2), .val (.ref b279), .val (.ref bb_302), .unset, .unset, .unset, .unset, .unset, .unset, .unset, .unset] [(.long (f_later q3 (f_dru ((((0 : Int64) + pp) + ((k1.toInt64) * pp)) + ((k2.toInt64) * pp)) pm)))])) _
    refine XS.lstore X305.here hx rfl (hb hby at_108) rfl (l' := #[.val (.int p0), .val (.long q1), .second, .val (.long q2), .second, .val (.long q3), .second, .val (.int p4), .val (.int p5), .val (.int cc), .val (.long pp), .second, .val (.long pm), .second, .val (.int k1), .val (.int k2), .val (.ref b279), .val (.ref bb_302), .val (.long (f_later q3 (f_dru ((((0 : Int64) + pp) + ((k1.toInt64) * pp)) + ((k2.toInt64) * pp)) pm))), .second, .unset, .unset, .unset, .unset, .unset, .unset]) rfl ?_
    show Steps p.tables e below (T305.setTop (mkF m 110 #[.val (.int p0), .val (.long q1), .second, .val (.long q2), .second, .val (.long q3), .second, .val (.int p4), .val (.int p5), .val (.int cc), .val (.long pp), .second, .val (.long pm), .second, .val (.int k1), .val (.int k2), .val (.ref b279), .val (.ref bb_302), .val (.long (f_later q3 (f_dru ((((0 : Int64) + pp) + ((k1.toInt64) * pp)) + ((k2.toInt64) * pp)) pm))), .second, .unset, .unset, .unset, .unset, .unset, .unset] [])) _
    refine XS.lconst X305.here hx rfl (hb hby at_110) ?_
    show Steps p.tables e below (T305.setTop (mkF m 111 #[.val (.int p0), .val (.long q1), .second, .val (.long q2), .second, .val (.long q3), .second, .val (.int p4), .val (.int p5), .val (.int cc), .val (.long pp), .second, .val (.long pm), .second, .val (.int k1), .val (.int k2), .val (.ref b279), .val (.ref bb_302), .val (.long (f_later q3 (f_dru ((((0 : Int64) + pp) + ((k1.toInt64) * pp)) + ((k2.toInt64) * pp)) pm))), .second, .unset, .unset, .unset, .unset, .unset, .unset] [(.long (1 : Int64))])) _
    refine XS.iload X305.here hx rfl (hb hby at_111) rfl ?_
    show Steps p.tables e below (T305.setTop (mkF m 113 #[.val (.int p0), .val (.long q1), .second, .val (.long q2), .second, .val (.long q3), .second, .val (.int p4), .val (.int p5), .val (.int cc), .val (.long pp), .second, .val (.long pm), .second, .val (.int k1), .val (.int k2), .val (.ref b279), .val (.ref bb_302), .val (.long (f_later q3 (f_dru ((((0 : Int64) + pp) + ((k1.toInt64) * pp)) + ((k2.toInt64) * pp)) pm))), .second, .unset, .unset, .unset, .unset, .unset, .unset] [(.int k1), (.long (1 : Int64))])) _
    refine XS.i2l X305.here hx rfl (hb hby at_113) rfl ?_
    show Steps p.tables e below (T305.setTop (mkF m 114 #[.val (.int p0), .val (.long q1), .second, .val (.long q2), .second, .val (.long q3), .second, .val (.int p4), .val (.int p5), .val (.int cc), .val (.long pp), .second, .val (.long pm), .second, .val (.int k1), .val (.int k2), .val (.ref b279), .val (.ref bb_302), .val (.long (f_later q3 (f_dru ((((0 : Int64) + pp) + ((k1.toInt64) * pp)) + ((k2.toInt64) * pp)) pm))), .second, .unset, .unset, .unset, .unset, .unset, .unset] [(.long (k1.toInt64)), (.long (1 : Int64))])) _
    refine XS.ladd X305.here hx rfl (hb hby at_114) rfl ?_
    show Steps p.tables e below (T305.setTop (mkF m 115 #[.val (.int p0), .val (.long q1), .second, .val (.long q2), .second, .val (.long q3), .second, .val (.int p4), .val (.int p5), .val (.int cc), .val (.long pp), .second, .val (.long pm), .second, .val (.int k1), .val (.int k2), .val (.ref b279), .val (.ref bb_302), .val (.long (f_later q3 (f_dru ((((0 : Int64) + pp) + ((k1.toInt64) * pp)) + ((k2.toInt64) * pp)) pm))), .second, .unset, .unset, .unset, .unset, .unset, .unset] [(.long ((1 : Int64) + (k1.toInt64)))])) _
    refine XS.iload X305.here hx rfl (hb hby at_115) rfl ?_
    show Steps p.tables e below (T305.setTop (mkF m 117 #[.val (.int p0), .val (.long q1), .second, .val (.long q2), .second, .val (.long q3), .second, .val (.int p4), .val (.int p5), .val (.int cc), .val (.long pp), .second, .val (.long pm), .second, .val (.int k1), .val (.int k2), .val (.ref b279), .val (.ref bb_302), .val (.long (f_later q3 (f_dru ((((0 : Int64) + pp) + ((k1.toInt64) * pp)) + ((k2.toInt64) * pp)) pm))), .second, .unset, .unset, .unset, .unset, .unset, .unset] [(.int k2), (.long ((1 : Int64) + (k1.toInt64)))])) _
    refine XS.i2l X305.here hx rfl (hb hby at_117) rfl ?_
    show Steps p.tables e below (T305.setTop (mkF m 118 #[.val (.int p0), .val (.long q1), .second, .val (.long q2), .second, .val (.long q3), .second, .val (.int p4), .val (.int p5), .val (.int cc), .val (.long pp), .second, .val (.long pm), .second, .val (.int k1), .val (.int k2), .val (.ref b279), .val (.ref bb_302), .val (.long (f_later q3 (f_dru ((((0 : Int64) + pp) + ((k1.toInt64) * pp)) + ((k2.toInt64) * pp)) pm))), .second, .unset, .unset, .unset, .unset, .unset, .unset] [(.long (k2.toInt64)), (.long ((1 : Int64) + (k1.toInt64)))])) _
    refine XS.ladd X305.here hx rfl (hb hby at_118) rfl ?_
    show Steps p.tables e below (T305.setTop (mkF m 119 #[.val (.int p0), .val (.long q1), .second, .val (.long q2), .second, .val (.long q3), .second, .val (.int p4), .val (.int p5), .val (.int cc), .val (.long pp), .second, .val (.long pm), .second, .val (.int k1), .val (.int k2), .val (.ref b279), .val (.ref bb_302), .val (.long (f_later q3 (f_dru ((((0 : Int64) + pp) + ((k1.toInt64) * pp)) + ((k2.toInt64) * pp)) pm))), .second, .unset, .unset, .unset, .unset, .unset, .unset] [(.long (((1 : Int64) + (k1.toInt64)) + (k2.toInt64)))])) _
    refine XS.lload X305.here hx rfl (hb hby at_119) rfl ?_
    show Steps p.tables e below (T305.setTop (mkF m 121 #[.val (.int p0), .val (.long q1), .second, .val (.long q2), .second, .val (.long q3), .second, .val (.int p4), .val (.int p5), .val (.int cc), .val (.long pp), .second, .val (.long pm), .second, .val (.int k1), .val (.int k2), .val (.ref b279), .val (.ref bb_302), .val (.long (f_later q3 (f_dru ((((0 : Int64) + pp) + ((k1.toInt64) * pp)) + ((k2.toInt64) * pp)) pm))), .second, .unset, .unset, .unset, .unset, .unset, .unset] [(.long pp), (.long (((1 : Int64) + (k1.toInt64)) + (k2.toInt64)))])) _
    refine XS.lmul X305.here hx rfl (hb hby at_121) rfl ?_
    show Steps p.tables e below (T305.setTop (mkF m 122 #[.val (.int p0), .val (.long q1), .second, .val (.long q2), .second, .val (.long q3), .second, .val (.int p4), .val (.int p5), .val (.int cc), .val (.long pp), .second, .val (.long pm), .second, .val (.int k1), .val (.int k2), .val (.ref b279), .val (.ref bb_302), .val (.long (f_later q3 (f_dru ((((0 : Int64) + pp) + ((k1.toInt64) * pp)) + ((k2.toInt64) * pp)) pm))), .second, .unset, .unset, .unset, .unset, .unset, .unset] [(.long ((((1 : Int64) + (k1.toInt64)) + (k2.toInt64)) * pp))])) _
    refine XS.lstore X305.here hx rfl (hb hby at_122) rfl (l' := #[.val (.int p0), .val (.long q1), .second, .val (.long q2), .second, .val (.long q3), .second, .val (.int p4), .val (.int p5), .val (.int cc), .val (.long pp), .second, .val (.long pm), .second, .val (.int k1), .val (.int k2), .val (.ref b279), .val (.ref bb_302), .val (.long (f_later q3 (f_dru ((((0 : Int64) + pp) + ((k1.toInt64) * pp)) + ((k2.toInt64) * pp)) pm))), .second, .val (.long ((((1 : Int64) + (k1.toInt64)) + (k2.toInt64)) * pp)), .second, .unset, .unset, .unset, .unset]) rfl ?_
    exact kt
  obtain ⟨uu, hd_uu⟩ : ∃ z, z = ((((1 : Int64) + (k1.toInt64)) + (k2.toInt64)) * pp) := ⟨_, rfl⟩
  rw [← hd_uu] at S309
  have S310 : ∀ t, Steps p.tables e below (T305.setTop (mkF m 136 #[.val (.int p0), .val (.long q1), .second, .val (.long q2), .second, .val (.long q3), .second, .val (.int p4), .val (.int p5), .val (.int cc), .val (.long pp), .second, .val (.long pm), .second, .val (.int k1), .val (.int k2), .val (.ref b279), .val (.ref bb_302), .val (.long (f_later q3 (f_dru ((((0 : Int64) + pp) + ((k1.toInt64) * pp)) + ((k2.toInt64) * pp)) pm))), .second, .val (.long uu), .second, .unset, .unset, .unset, .unset] [(.int (XT.cmpL (uu - (uu / pm) * pm) (0 : Int64))), (.long (uu / pm))])) t → Steps p.tables e below (s₁.setTop (entryFrame m #[(.int p0), (.long q1), (.long q2), (.long q3), (.int p4), (.int p5)] maxLocals)) t := by
    intro t kt
    refine S309 _ ?_
    show Steps p.tables e below (T305.setTop (mkF m 124 #[.val (.int p0), .val (.long q1), .second, .val (.long q2), .second, .val (.long q3), .second, .val (.int p4), .val (.int p5), .val (.int cc), .val (.long pp), .second, .val (.long pm), .second, .val (.int k1), .val (.int k2), .val (.ref b279), .val (.ref bb_302), .val (.long (f_later q3 (f_dru ((((0 : Int64) + pp) + ((k1.toInt64) * pp)) + ((k2.toInt64) * pp)) pm))), .second, .val (.long uu), .second, .unset, .unset, .unset, .unset] [])) _
    refine XS.lload X305.here hx rfl (hb hby at_124) rfl ?_
    show Steps p.tables e below (T305.setTop (mkF m 126 #[.val (.int p0), .val (.long q1), .second, .val (.long q2), .second, .val (.long q3), .second, .val (.int p4), .val (.int p5), .val (.int cc), .val (.long pp), .second, .val (.long pm), .second, .val (.int k1), .val (.int k2), .val (.ref b279), .val (.ref bb_302), .val (.long (f_later q3 (f_dru ((((0 : Int64) + pp) + ((k1.toInt64) * pp)) + ((k2.toInt64) * pp)) pm))), .second, .val (.long uu), .second, .unset, .unset, .unset, .unset] [(.long uu)])) _
    refine XS.lload X305.here hx rfl (hb hby at_126) rfl ?_
    show Steps p.tables e below (T305.setTop (mkF m 128 #[.val (.int p0), .val (.long q1), .second, .val (.long q2), .second, .val (.long q3), .second, .val (.int p4), .val (.int p5), .val (.int cc), .val (.long pp), .second, .val (.long pm), .second, .val (.int k1), .val (.int k2), .val (.ref b279), .val (.ref bb_302), .val (.long (f_later q3 (f_dru ((((0 : Int64) + pp) + ((k1.toInt64) * pp)) + ((k2.toInt64) * pp)) pm))), .second, .val (.long uu), .second, .unset, .unset, .unset, .unset] [(.long pm), (.long uu)])) _
    refine XS.ldiv X305.here hx rfl (hb hby at_128) rfl (own_nz hpm) ?_
    show Steps p.tables e below (T305.setTop (mkF m 129 #[.val (.int p0), .val (.long q1), .second, .val (.long q2), .second, .val (.long q3), .second, .val (.int p4), .val (.int p5), .val (.int cc), .val (.long pp), .second, .val (.long pm), .second, .val (.int k1), .val (.int k2), .val (.ref b279), .val (.ref bb_302), .val (.long (f_later q3 (f_dru ((((0 : Int64) + pp) + ((k1.toInt64) * pp)) + ((k2.toInt64) * pp)) pm))), .second, .val (.long uu), .second, .unset, .unset, .unset, .unset] [(.long (uu / pm))])) _
    refine XS.lload X305.here hx rfl (hb hby at_129) rfl ?_
    show Steps p.tables e below (T305.setTop (mkF m 131 #[.val (.int p0), .val (.long q1), .second, .val (.long q2), .second, .val (.long q3), .second, .val (.int p4), .val (.int p5), .val (.int cc), .val (.long pp), .second, .val (.long pm), .second, .val (.int k1), .val (.int k2), .val (.ref b279), .val (.ref bb_302), .val (.long (f_later q3 (f_dru ((((0 : Int64) + pp) + ((k1.toInt64) * pp)) + ((k2.toInt64) * pp)) pm))), .second, .val (.long uu), .second, .unset, .unset, .unset, .unset] [(.long uu), (.long (uu / pm))])) _
    refine XS.lload X305.here hx rfl (hb hby at_131) rfl ?_
    show Steps p.tables e below (T305.setTop (mkF m 133 #[.val (.int p0), .val (.long q1), .second, .val (.long q2), .second, .val (.long q3), .second, .val (.int p4), .val (.int p5), .val (.int cc), .val (.long pp), .second, .val (.long pm), .second, .val (.int k1), .val (.int k2), .val (.ref b279), .val (.ref bb_302), .val (.long (f_later q3 (f_dru ((((0 : Int64) + pp) + ((k1.toInt64) * pp)) + ((k2.toInt64) * pp)) pm))), .second, .val (.long uu), .second, .unset, .unset, .unset, .unset] [(.long pm), (.long uu), (.long (uu / pm))])) _
    refine XS.lrem X305.here hx rfl (hb hby at_133) rfl (own_nz hpm) ?_
    show Steps p.tables e below (T305.setTop (mkF m 134 #[.val (.int p0), .val (.long q1), .second, .val (.long q2), .second, .val (.long q3), .second, .val (.int p4), .val (.int p5), .val (.int cc), .val (.long pp), .second, .val (.long pm), .second, .val (.int k1), .val (.int k2), .val (.ref b279), .val (.ref bb_302), .val (.long (f_later q3 (f_dru ((((0 : Int64) + pp) + ((k1.toInt64) * pp)) + ((k2.toInt64) * pp)) pm))), .second, .val (.long uu), .second, .unset, .unset, .unset, .unset] [(.long (uu - (uu / pm) * pm)), (.long (uu / pm))])) _
    refine XS.lconst X305.here hx rfl (hb hby at_134) ?_
    show Steps p.tables e below (T305.setTop (mkF m 135 #[.val (.int p0), .val (.long q1), .second, .val (.long q2), .second, .val (.long q3), .second, .val (.int p4), .val (.int p5), .val (.int cc), .val (.long pp), .second, .val (.long pm), .second, .val (.int k1), .val (.int k2), .val (.ref b279), .val (.ref bb_302), .val (.long (f_later q3 (f_dru ((((0 : Int64) + pp) + ((k1.toInt64) * pp)) + ((k2.toInt64) * pp)) pm))), .second, .val (.long uu), .second, .unset, .unset, .unset, .unset] [(.long (0 : Int64)), (.long (uu - (uu / pm) * pm)), (.long (uu / pm))])) _
    refine XT.lcmp X305.here hx rfl (hb hby at_135) rfl ?_
    exact kt
  have S312 : ∀ t, Steps p.tables e below (T305.setTop (mkF m 144 #[.val (.int p0), .val (.long q1), .second, .val (.long q2), .second, .val (.long q3), .second, .val (.int p4), .val (.int p5), .val (.int cc), .val (.long pp), .second, .val (.long pm), .second, .val (.int k1), .val (.int k2), .val (.ref b279), .val (.ref bb_302), .val (.long (f_later q3 (f_dru ((((0 : Int64) + pp) + ((k1.toInt64) * pp)) + ((k2.toInt64) * pp)) pm))), .second, .val (.long uu), .second, .unset, .unset, .unset, .unset] [(.long (if (uu - (uu / pm) * pm) = (0 : Int64) then (0 : Int64) else (1 : Int64))), (.long (uu / pm))])) t → Steps p.tables e below (s₁.setTop (entryFrame m #[(.int p0), (.long q1), (.long q2), (.long q3), (.int p4), (.int p5)] maxLocals)) t := by
    intro t kt
    refine S310 _ ?_
    by_cases hc136_311 : (uu - (uu / pm) * pm) = (0 : Int64)
    case pos =>
      rw [(if_pos hc136_311 : (if (uu - (uu / pm) * pm) = (0 : Int64) then (0 : Int64) else (1 : Int64)) = (0 : Int64))] at kt
      show Steps p.tables e below (T305.setTop (mkF m 136 #[.val (.int p0), .val (.long q1), .second, .val (.long q2), .second, .val (.long q3), .second, .val (.int p4), .val (.int p5), .val (.int cc), .val (.long pp), .second, .val (.long pm), .second, .val (.int k1), .val (.int k2), .val (.ref b279), .val (.ref bb_302), .val (.long (f_later q3 (f_dru ((((0 : Int64) + pp) + ((k1.toInt64) * pp)) + ((k2.toInt64) * pp)) pm))), .second, .val (.long uu), .second, .unset, .unset, .unset, .unset] [(.int (XT.cmpL (uu - (uu / pm) * pm) (0 : Int64))), (.long (uu / pm))])) _
      refine XS.ifYes X305.here hx rfl (pc0 := 136) (pc' := 143) rfl (hb hby at_136) rfl (XT.ll_eq_t hc136_311) (by decide) (by decide) ?_
      show Steps p.tables e below (T305.setTop (mkF m 143 #[.val (.int p0), .val (.long q1), .second, .val (.long q2), .second, .val (.long q3), .second, .val (.int p4), .val (.int p5), .val (.int cc), .val (.long pp), .second, .val (.long pm), .second, .val (.int k1), .val (.int k2), .val (.ref b279), .val (.ref bb_302), .val (.long (f_later q3 (f_dru ((((0 : Int64) + pp) + ((k1.toInt64) * pp)) + ((k2.toInt64) * pp)) pm))), .second, .val (.long uu), .second, .unset, .unset, .unset, .unset] [(.long (uu / pm))])) _
      refine XS.lconst X305.here hx rfl (hb hby at_143) ?_
      exact kt
    case neg =>
      rw [(if_neg hc136_311 : (if (uu - (uu / pm) * pm) = (0 : Int64) then (0 : Int64) else (1 : Int64)) = (1 : Int64))] at kt
      show Steps p.tables e below (T305.setTop (mkF m 136 #[.val (.int p0), .val (.long q1), .second, .val (.long q2), .second, .val (.long q3), .second, .val (.int p4), .val (.int p5), .val (.int cc), .val (.long pp), .second, .val (.long pm), .second, .val (.int k1), .val (.int k2), .val (.ref b279), .val (.ref bb_302), .val (.long (f_later q3 (f_dru ((((0 : Int64) + pp) + ((k1.toInt64) * pp)) + ((k2.toInt64) * pp)) pm))), .second, .val (.long uu), .second, .unset, .unset, .unset, .unset] [(.int (XT.cmpL (uu - (uu / pm) * pm) (0 : Int64))), (.long (uu / pm))])) _
      refine XS.ifNo X305.here hx rfl (hb hby at_136) rfl (XT.ll_eq_f hc136_311) ?_
      show Steps p.tables e below (T305.setTop (mkF m 139 #[.val (.int p0), .val (.long q1), .second, .val (.long q2), .second, .val (.long q3), .second, .val (.int p4), .val (.int p5), .val (.int cc), .val (.long pp), .second, .val (.long pm), .second, .val (.int k1), .val (.int k2), .val (.ref b279), .val (.ref bb_302), .val (.long (f_later q3 (f_dru ((((0 : Int64) + pp) + ((k1.toInt64) * pp)) + ((k2.toInt64) * pp)) pm))), .second, .val (.long uu), .second, .unset, .unset, .unset, .unset] [(.long (uu / pm))])) _
      refine XS.lconst X305.here hx rfl (hb hby at_139) ?_
      show Steps p.tables e below (T305.setTop (mkF m 140 #[.val (.int p0), .val (.long q1), .second, .val (.long q2), .second, .val (.long q3), .second, .val (.int p4), .val (.int p5), .val (.int cc), .val (.long pp), .second, .val (.long pm), .second, .val (.int k1), .val (.int k2), .val (.ref b279), .val (.ref bb_302), .val (.long (f_later q3 (f_dru ((((0 : Int64) + pp) + ((k1.toInt64) * pp)) + ((k2.toInt64) * pp)) pm))), .second, .val (.long uu), .second, .unset, .unset, .unset, .unset] [(.long (1 : Int64)), (.long (uu / pm))])) _
      refine XS.goto X305.here hx rfl (pc0 := 140) (pc' := 144) rfl (hb hby at_140) (by decide) (by decide) ?_
      exact kt
  have S313 : ∀ t, Steps p.tables e below (T305.setTop (mkF m 147 #[.val (.int p0), .val (.long q1), .second, .val (.long q2), .second, .val (.long q3), .second, .val (.int p4), .val (.int p5), .val (.int cc), .val (.long pp), .second, .val (.long pm), .second, .val (.int k1), .val (.int k2), .val (.ref b279), .val (.ref bb_302), .val (.long (f_later q3 (f_dru ((((0 : Int64) + pp) + ((k1.toInt64) * pp)) + ((k2.toInt64) * pp)) pm))), .second, .val (.long uu), .second, .val (.long ((uu / pm) + (if (uu - (uu / pm) * pm) = (0 : Int64) then (0 : Int64) else (1 : Int64)))), .second, .unset, .unset] [])) t → Steps p.tables e below (s₁.setTop (entryFrame m #[(.int p0), (.long q1), (.long q2), (.long q3), (.int p4), (.int p5)] maxLocals)) t := by
    intro t kt
    refine S312 _ ?_
    show Steps p.tables e below (T305.setTop (mkF m 144 #[.val (.int p0), .val (.long q1), .second, .val (.long q2), .second, .val (.long q3), .second, .val (.int p4), .val (.int p5), .val (.int cc), .val (.long pp), .second, .val (.long pm), .second, .val (.int k1), .val (.int k2), .val (.ref b279), .val (.ref bb_302), .val (.long (f_later q3 (f_dru ((((0 : Int64) + pp) + ((k1.toInt64) * pp)) + ((k2.toInt64) * pp)) pm))), .second, .val (.long uu), .second, .unset, .unset, .unset, .unset] [(.long (if (uu - (uu / pm) * pm) = (0 : Int64) then (0 : Int64) else (1 : Int64))), (.long (uu / pm))])) _
    refine XS.ladd X305.here hx rfl (hb hby at_144) rfl ?_
    show Steps p.tables e below (T305.setTop (mkF m 145 #[.val (.int p0), .val (.long q1), .second, .val (.long q2), .second, .val (.long q3), .second, .val (.int p4), .val (.int p5), .val (.int cc), .val (.long pp), .second, .val (.long pm), .second, .val (.int k1), .val (.int k2), .val (.ref b279), .val (.ref bb_302), .val (.long (f_later q3 (f_dru ((((0 : Int64) + pp) + ((k1.toInt64) * pp)) + ((k2.toInt64) * pp)) pm))), .second, .val (.long uu), .second, .unset, .unset, .unset, .unset] [(.long ((uu / pm) + (if (uu - (uu / pm) * pm) = (0 : Int64) then (0 : Int64) else (1 : Int64))))])) _
    refine XS.lstore X305.here hx rfl (hb hby at_145) rfl (l' := #[.val (.int p0), .val (.long q1), .second, .val (.long q2), .second, .val (.long q3), .second, .val (.int p4), .val (.int p5), .val (.int cc), .val (.long pp), .second, .val (.long pm), .second, .val (.int k1), .val (.int k2), .val (.ref b279), .val (.ref bb_302), .val (.long (f_later q3 (f_dru ((((0 : Int64) + pp) + ((k1.toInt64) * pp)) + ((k2.toInt64) * pp)) pm))), .second, .val (.long uu), .second, .val (.long ((uu / pm) + (if (uu - (uu / pm) * pm) = (0 : Int64) then (0 : Int64) else (1 : Int64)))), .second, .unset, .unset]) rfl ?_
    exact kt
  obtain ⟨ml, hd_ml⟩ : ∃ z, z = ((uu / pm) + (if (uu - (uu / pm) * pm) = (0 : Int64) then (0 : Int64) else (1 : Int64))) := ⟨_, rfl⟩
  rw [← hd_ml] at S313
  have S314 : ∀ t, Steps p.tables e below (T305.setTop (mkF m 156 #[.val (.int p0), .val (.long q1), .second, .val (.long q2), .second, .val (.long q3), .second, .val (.int p4), .val (.int p5), .val (.int cc), .val (.long pp), .second, .val (.long pm), .second, .val (.int k1), .val (.int k2), .val (.ref b279), .val (.ref bb_302), .val (.long (f_later q3 (f_dru ((((0 : Int64) + pp) + ((k1.toInt64) * pp)) + ((k2.toInt64) * pp)) pm))), .second, .val (.long uu), .second, .val (.long ml), .second, .unset, .unset] [(.int (XT.cmpL q3 ((9223372036854775807 : Int64) - ml)))])) t → Steps p.tables e below (s₁.setTop (entryFrame m #[(.int p0), (.long q1), (.long q2), (.long q3), (.int p4), (.int p5)] maxLocals)) t := by
    intro t kt
    refine S313 _ ?_
    show Steps p.tables e below (T305.setTop (mkF m 147 #[.val (.int p0), .val (.long q1), .second, .val (.long q2), .second, .val (.long q3), .second, .val (.int p4), .val (.int p5), .val (.int cc), .val (.long pp), .second, .val (.long pm), .second, .val (.int k1), .val (.int k2), .val (.ref b279), .val (.ref bb_302), .val (.long (f_later q3 (f_dru ((((0 : Int64) + pp) + ((k1.toInt64) * pp)) + ((k2.toInt64) * pp)) pm))), .second, .val (.long uu), .second, .val (.long ml), .second, .unset, .unset] [])) _
    refine XS.lload X305.here hx rfl (hb hby at_147) rfl ?_
    show Steps p.tables e below (T305.setTop (mkF m 149 #[.val (.int p0), .val (.long q1), .second, .val (.long q2), .second, .val (.long q3), .second, .val (.int p4), .val (.int p5), .val (.int cc), .val (.long pp), .second, .val (.long pm), .second, .val (.int k1), .val (.int k2), .val (.ref b279), .val (.ref bb_302), .val (.long (f_later q3 (f_dru ((((0 : Int64) + pp) + ((k1.toInt64) * pp)) + ((k2.toInt64) * pp)) pm))), .second, .val (.long uu), .second, .val (.long ml), .second, .unset, .unset] [(.long q3)])) _
    refine X305.ldc2Long hx hown302 (mvT hZ302 (hw _ (List.mem_of_getElem? (i := 5) rfl))) (g := (mkF m 149 #[.val (.int p0), .val (.long q1), .second, .val (.long q2), .second, .val (.long q3), .second, .val (.int p4), .val (.int p5), .val (.int cc), .val (.long pp), .second, .val (.long pm), .second, .val (.int k1), .val (.int k2), .val (.ref b279), .val (.ref bb_302), .val (.long (f_later q3 (f_dru ((((0 : Int64) + pp) + ((k1.toInt64) * pp)) + ((k2.toInt64) * pp)) pm))), .second, .val (.long uu), .second, .val (.long ml), .second, .unset, .unset] [(.long q3)])) rfl (hb hby at_149) _ ?_
    show Steps p.tables e below (T305.setTop (mkF m 152 #[.val (.int p0), .val (.long q1), .second, .val (.long q2), .second, .val (.long q3), .second, .val (.int p4), .val (.int p5), .val (.int cc), .val (.long pp), .second, .val (.long pm), .second, .val (.int k1), .val (.int k2), .val (.ref b279), .val (.ref bb_302), .val (.long (f_later q3 (f_dru ((((0 : Int64) + pp) + ((k1.toInt64) * pp)) + ((k2.toInt64) * pp)) pm))), .second, .val (.long uu), .second, .val (.long ml), .second, .unset, .unset] [(.long (9223372036854775807 : Int64)), (.long q3)])) _
    refine XS.lload X305.here hx rfl (hb hby at_152) rfl ?_
    show Steps p.tables e below (T305.setTop (mkF m 154 #[.val (.int p0), .val (.long q1), .second, .val (.long q2), .second, .val (.long q3), .second, .val (.int p4), .val (.int p5), .val (.int cc), .val (.long pp), .second, .val (.long pm), .second, .val (.int k1), .val (.int k2), .val (.ref b279), .val (.ref bb_302), .val (.long (f_later q3 (f_dru ((((0 : Int64) + pp) + ((k1.toInt64) * pp)) + ((k2.toInt64) * pp)) pm))), .second, .val (.long uu), .second, .val (.long ml), .second, .unset, .unset] [(.long ml), (.long (9223372036854775807 : Int64)), (.long q3)])) _
    refine XS.lsub X305.here hx rfl (hb hby at_154) rfl ?_
    show Steps p.tables e below (T305.setTop (mkF m 155 #[.val (.int p0), .val (.long q1), .second, .val (.long q2), .second, .val (.long q3), .second, .val (.int p4), .val (.int p5), .val (.int cc), .val (.long pp), .second, .val (.long pm), .second, .val (.int k1), .val (.int k2), .val (.ref b279), .val (.ref bb_302), .val (.long (f_later q3 (f_dru ((((0 : Int64) + pp) + ((k1.toInt64) * pp)) + ((k2.toInt64) * pp)) pm))), .second, .val (.long uu), .second, .val (.long ml), .second, .unset, .unset] [(.long ((9223372036854775807 : Int64) - ml)), (.long q3)])) _
    refine XT.lcmp X305.here hx rfl (hb hby at_155) rfl ?_
    exact kt
  have S316 : ∀ t, Steps p.tables e below (T305.setTop (mkF m 170 #[.val (.int p0), .val (.long q1), .second, .val (.long q2), .second, .val (.long q3), .second, .val (.int p4), .val (.int p5), .val (.int cc), .val (.long pp), .second, .val (.long pm), .second, .val (.int k1), .val (.int k2), .val (.ref b279), .val (.ref bb_302), .val (.long (f_later q3 (f_dru ((((0 : Int64) + pp) + ((k1.toInt64) * pp)) + ((k2.toInt64) * pp)) pm))), .second, .val (.long uu), .second, .val (.long ml), .second, .unset, .unset] [(.long (if ((9223372036854775807 : Int64) - ml) < q3 then (9223372036854775807 : Int64) else (q3 + ml)))])) t → Steps p.tables e below (s₁.setTop (entryFrame m #[(.int p0), (.long q1), (.long q2), (.long q3), (.int p4), (.int p5)] maxLocals)) t := by
    intro t kt
    refine S314 _ ?_
    by_cases hc156_315 : ((9223372036854775807 : Int64) - ml) < q3
    case pos =>
      rw [(if_pos hc156_315 : (if ((9223372036854775807 : Int64) - ml) < q3 then (9223372036854775807 : Int64) else (q3 + ml)) = (9223372036854775807 : Int64))] at kt
      show Steps p.tables e below (T305.setTop (mkF m 156 #[.val (.int p0), .val (.long q1), .second, .val (.long q2), .second, .val (.long q3), .second, .val (.int p4), .val (.int p5), .val (.int cc), .val (.long pp), .second, .val (.long pm), .second, .val (.int k1), .val (.int k2), .val (.ref b279), .val (.ref bb_302), .val (.long (f_later q3 (f_dru ((((0 : Int64) + pp) + ((k1.toInt64) * pp)) + ((k2.toInt64) * pp)) pm))), .second, .val (.long uu), .second, .val (.long ml), .second, .unset, .unset] [(.int (XT.cmpL q3 ((9223372036854775807 : Int64) - ml)))])) _
      refine XS.ifNo X305.here hx rfl (hb hby at_156) rfl (XT.ll_le_f hc156_315) ?_
      show Steps p.tables e below (T305.setTop (mkF m 159 #[.val (.int p0), .val (.long q1), .second, .val (.long q2), .second, .val (.long q3), .second, .val (.int p4), .val (.int p5), .val (.int cc), .val (.long pp), .second, .val (.long pm), .second, .val (.int k1), .val (.int k2), .val (.ref b279), .val (.ref bb_302), .val (.long (f_later q3 (f_dru ((((0 : Int64) + pp) + ((k1.toInt64) * pp)) + ((k2.toInt64) * pp)) pm))), .second, .val (.long uu), .second, .val (.long ml), .second, .unset, .unset] [])) _
      refine X305.ldc2Long hx hown302 (mvT hZ302 (hw _ (List.mem_of_getElem? (i := 5) rfl))) (g := (mkF m 159 #[.val (.int p0), .val (.long q1), .second, .val (.long q2), .second, .val (.long q3), .second, .val (.int p4), .val (.int p5), .val (.int cc), .val (.long pp), .second, .val (.long pm), .second, .val (.int k1), .val (.int k2), .val (.ref b279), .val (.ref bb_302), .val (.long (f_later q3 (f_dru ((((0 : Int64) + pp) + ((k1.toInt64) * pp)) + ((k2.toInt64) * pp)) pm))), .second, .val (.long uu), .second, .val (.long ml), .second, .unset, .unset] [])) rfl (hb hby at_159) _ ?_
      show Steps p.tables e below (T305.setTop (mkF m 162 #[.val (.int p0), .val (.long q1), .second, .val (.long q2), .second, .val (.long q3), .second, .val (.int p4), .val (.int p5), .val (.int cc), .val (.long pp), .second, .val (.long pm), .second, .val (.int k1), .val (.int k2), .val (.ref b279), .val (.ref bb_302), .val (.long (f_later q3 (f_dru ((((0 : Int64) + pp) + ((k1.toInt64) * pp)) + ((k2.toInt64) * pp)) pm))), .second, .val (.long uu), .second, .val (.long ml), .second, .unset, .unset] [(.long (9223372036854775807 : Int64))])) _
      refine XS.goto X305.here hx rfl (pc0 := 162) (pc' := 170) rfl (hb hby at_162) (by decide) (by decide) ?_
      exact kt
    case neg =>
      rw [(if_neg hc156_315 : (if ((9223372036854775807 : Int64) - ml) < q3 then (9223372036854775807 : Int64) else (q3 + ml)) = (q3 + ml))] at kt
      show Steps p.tables e below (T305.setTop (mkF m 156 #[.val (.int p0), .val (.long q1), .second, .val (.long q2), .second, .val (.long q3), .second, .val (.int p4), .val (.int p5), .val (.int cc), .val (.long pp), .second, .val (.long pm), .second, .val (.int k1), .val (.int k2), .val (.ref b279), .val (.ref bb_302), .val (.long (f_later q3 (f_dru ((((0 : Int64) + pp) + ((k1.toInt64) * pp)) + ((k2.toInt64) * pp)) pm))), .second, .val (.long uu), .second, .val (.long ml), .second, .unset, .unset] [(.int (XT.cmpL q3 ((9223372036854775807 : Int64) - ml)))])) _
      refine XS.ifYes X305.here hx rfl (pc0 := 156) (pc' := 165) rfl (hb hby at_156) rfl (XT.ll_le_t hc156_315) (by decide) (by decide) ?_
      show Steps p.tables e below (T305.setTop (mkF m 165 #[.val (.int p0), .val (.long q1), .second, .val (.long q2), .second, .val (.long q3), .second, .val (.int p4), .val (.int p5), .val (.int cc), .val (.long pp), .second, .val (.long pm), .second, .val (.int k1), .val (.int k2), .val (.ref b279), .val (.ref bb_302), .val (.long (f_later q3 (f_dru ((((0 : Int64) + pp) + ((k1.toInt64) * pp)) + ((k2.toInt64) * pp)) pm))), .second, .val (.long uu), .second, .val (.long ml), .second, .unset, .unset] [])) _
      refine XS.lload X305.here hx rfl (hb hby at_165) rfl ?_
      show Steps p.tables e below (T305.setTop (mkF m 167 #[.val (.int p0), .val (.long q1), .second, .val (.long q2), .second, .val (.long q3), .second, .val (.int p4), .val (.int p5), .val (.int cc), .val (.long pp), .second, .val (.long pm), .second, .val (.int k1), .val (.int k2), .val (.ref b279), .val (.ref bb_302), .val (.long (f_later q3 (f_dru ((((0 : Int64) + pp) + ((k1.toInt64) * pp)) + ((k2.toInt64) * pp)) pm))), .second, .val (.long uu), .second, .val (.long ml), .second, .unset, .unset] [(.long q3)])) _
      refine XS.lload X305.here hx rfl (hb hby at_167) rfl ?_
      show Steps p.tables e below (T305.setTop (mkF m 169 #[.val (.int p0), .val (.long q1), .second, .val (.long q2), .second, .val (.long q3), .second, .val (.int p4), .val (.int p5), .val (.int cc), .val (.long pp), .second, .val (.long pm), .second, .val (.int k1), .val (.int k2), .val (.ref b279), .val (.ref bb_302), .val (.long (f_later q3 (f_dru ((((0 : Int64) + pp) + ((k1.toInt64) * pp)) + ((k2.toInt64) * pp)) pm))), .second, .val (.long uu), .second, .val (.long ml), .second, .unset, .unset] [(.long ml), (.long q3)])) _
      refine XS.ladd X305.here hx rfl (hb hby at_169) rfl ?_
      exact kt
  obtain ⟨cq317, kq317, q317a, q317b, q317c⟩ := isOf hZ302 e305 f302_1
  obtain ⟨_, _, ⟨T317, L317, k317, n317⟩, -, X317, ⟨Lc317, hQ317, l317, y317, z317⟩, st317⟩ := X305.virtualBack hx (y := (⟨"com/example/even_bucket/evenbucket/Admissions$Moment", "free", "()I"⟩ : MethodName)) (z := (⟨"com/example/even_bucket/evenbucket/Admissions$Moment", "free", "()I"⟩ : MethodName)) hown302 (mvT hZ302 (hw _ (List.mem_of_getElem? (i := 173) rfl))) (mvT hZ302 (hw _ (List.mem_of_getElem? (i := 174) rfl))) (notFace_of_selects (args := #[]) (mvT hZ302 (hw _ (List.mem_of_getElem? (i := 176) rfl)))) (mvT hZ302 (hw _ (List.mem_of_getElem? (i := 176) rfl))) (mvT hZ302 (hw _ (List.mem_of_getElem? (i := 175) rfl))) (by decide) (backOf (W := 0) (rm28 l Z a0 hw [] bb_302 (cc - ((f_dru ((((0 : Int64) + pp) + ((k1.toInt64) * pp)) + ((k2.toInt64) * pp)) pp).toInt32)) T302.heap n0 (Nat.le_trans Z0 K303.1) f302_3) hZ302 (hw _ (List.mem_of_getElem? (i := 177) rfl)) (hw _ (List.mem_of_getElem? (i := 87) rfl)) (by decide) (by decide)) q317a q317c (g := (mkF m 174 #[.val (.int p0), .val (.long q1), .second, .val (.long q2), .second, .val (.long q3), .second, .val (.int p4), .val (.int p5), .val (.int cc), .val (.long pp), .second, .val (.long pm), .second, .val (.int k1), .val (.int k2), .val (.ref b279), .val (.ref bb_302), .val (.long (f_later q3 (f_dru ((((0 : Int64) + pp) + ((k1.toInt64) * pp)) + ((k2.toInt64) * pp)) pm))), .second, .val (.long uu), .second, .val (.long ml), .second, .val (.long (if ((9223372036854775807 : Int64) - ml) < q3 then (9223372036854775807 : Int64) else (q3 + ml))), .second] [(.ref bb_302)])) rfl (by rw [hml]; rfl) (Steps.refl _) (argsL := []) (rest := []) (lenOf pd___I rfl) rfl (by show 2 * 0 + _ ≤ _; exact Nat.le_of_eq rfl) (hb hby at_174) (fun _ _ => ⟨rfl, e305, (by decide : 8 + 0 ≤ _), (by decide : 66 + 0 ≤ _)⟩)
  dsimp only [Pt.U, Pt.locs, Pt.cells, Pt.slots] at X317 l317 y317 z317 st317 hQ317
  subst l317 y317 z317
  obtain ⟨rfl, Nq317, e317⟩ := hQ317
  have N317 := Fr.app N305 Nq317
  obtain ⟨cq318, kq318, q318a, q318b, q318c⟩ := isOf hZ302 e317 f302_1
  obtain ⟨_, _, ⟨T318, L318, k318, n318⟩, -, X318, ⟨Lc318, hQ318, l318, y318, z318⟩, st318⟩ := X317.virtualBack hx (y := (⟨"com/example/even_bucket/evenbucket/Admissions$Moment", "millis", "()J"⟩ : MethodName)) (z := (⟨"com/example/even_bucket/evenbucket/Admissions$Moment", "millis", "()J"⟩ : MethodName)) hown302 (mvT hZ302 (hw _ (List.mem_of_getElem? (i := 178) rfl))) (mvT hZ302 (hw _ (List.mem_of_getElem? (i := 179) rfl))) (notFace_of_selects (args := #[]) (mvT hZ302 (hw _ (List.mem_of_getElem? (i := 181) rfl)))) (mvT hZ302 (hw _ (List.mem_of_getElem? (i := 181) rfl))) (mvT hZ302 (hw _ (List.mem_of_getElem? (i := 180) rfl))) (by decide) (backOf (W := 0) (rm29 l Z a0 hw [] bb_302 q3 T302.heap n0 (Nat.le_trans Z0 K303.1) f302_2) hZ302 (hw _ (List.mem_of_getElem? (i := 182) rfl)) (hw _ (List.mem_of_getElem? (i := 87) rfl)) (by decide) (by decide)) q318a q318c (g := (mkF m 192 #[.val (.int p0), .val (.long q1), .second, .val (.long q2), .second, .val (.long q3), .second, .val (.int p4), .val (.int p5), .val (.int cc), .val (.long pp), .second, .val (.long pm), .second, .val (.int k1), .val (.int k2), .val (.ref b279), .val (.ref bb_302), .val (.long (f_later q3 (f_dru ((((0 : Int64) + pp) + ((k1.toInt64) * pp)) + ((k2.toInt64) * pp)) pm))), .second, .val (.long uu), .second, .val (.long ml), .second, .val (.long (if ((9223372036854775807 : Int64) - ml) < q3 then (9223372036854775807 : Int64) else (q3 + ml))), .second] [(.ref bb_302)])) rfl (by rw [hml]; rfl) (Steps.refl _) (argsL := []) (rest := []) (lenOf pd___J rfl) rfl (by show 2 * 0 + _ ≤ _; exact Nat.le_of_eq rfl) (hb hby at_192) (fun _ _ => ⟨rfl, e317, (by decide : 8 + 0 ≤ _), (by decide : 66 + 0 ≤ _)⟩)
  dsimp only [Pt.U, Pt.locs, Pt.cells, Pt.slots] at X318 l318 y318 z318 st318 hQ318
  subst l318 y318 z318
  obtain ⟨rfl, Nq318, e318⟩ := hQ318
  have N318 := Fr.app N317 Nq318
  obtain ⟨cq319, kq319, q319a, q319b, q319c⟩ := isOf hZ302 e318 f302_1
  obtain ⟨_, _, ⟨T319, L319, k319, n319⟩, -, X319, ⟨Lc319, hQ319, l319, y319, z319⟩, st319⟩ := X318.virtualBack hx (y := (⟨"com/example/even_bucket/evenbucket/Admissions$Moment", "newest", "()J"⟩ : MethodName)) (z := (⟨"com/example/even_bucket/evenbucket/Admissions$Moment", "newest", "()J"⟩ : MethodName)) hown302 (mvT hZ302 (hw _ (List.mem_of_getElem? (i := 183) rfl))) (mvT hZ302 (hw _ (List.mem_of_getElem? (i := 184) rfl))) (notFace_of_selects (args := #[]) (mvT hZ302 (hw _ (List.mem_of_getElem? (i := 186) rfl)))) (mvT hZ302 (hw _ (List.mem_of_getElem? (i := 186) rfl))) (mvT hZ302 (hw _ (List.mem_of_getElem? (i := 185) rfl))) (by decide) (backOf (W := 0) (rm30 l Z a0 hw [] bb_302 q3 T302.heap n0 (Nat.le_trans Z0 K303.1) f302_4) hZ302 (hw _ (List.mem_of_getElem? (i := 187) rfl)) (hw _ (List.mem_of_getElem? (i := 87) rfl)) (by decide) (by decide)) q319a q319c (g := (mkF m 203 #[.val (.int p0), .val (.long q1), .second, .val (.long q2), .second, .val (.long q3), .second, .val (.int p4), .val (.int p5), .val (.int cc), .val (.long pp), .second, .val (.long pm), .second, .val (.int k1), .val (.int k2), .val (.ref b279), .val (.ref bb_302), .val (.long (f_later q3 (f_dru ((((0 : Int64) + pp) + ((k1.toInt64) * pp)) + ((k2.toInt64) * pp)) pm))), .second, .val (.long uu), .second, .val (.long ml), .second, .val (.long (if ((9223372036854775807 : Int64) - ml) < q3 then (9223372036854775807 : Int64) else (q3 + ml))), .second] [(.ref bb_302)])) rfl (by rw [hml]; rfl) (Steps.refl _) (argsL := []) (rest := []) (lenOf pd___J rfl) rfl (by show 2 * 0 + _ ≤ _; exact Nat.le_of_eq rfl) (hb hby at_203) (fun _ _ => ⟨rfl, e318, (by decide : 8 + 0 ≤ _), (by decide : 66 + 0 ≤ _)⟩)
  dsimp only [Pt.U, Pt.locs, Pt.cells, Pt.slots] at X319 l319 y319 z319 st319 hQ319
  subst l319 y319 z319
  obtain ⟨rfl, Nq319, e319⟩ := hQ319
  have N319 := Fr.app N318 Nq319
  obtain ⟨fs, hrT, hrunT, hendT, hRW⟩ := X319.leaveW (hlocks := BodyLoose.notSynchronized Bd) hS302 (v := some (.int (1 : Int32))) (by rw [e319]; exact (Nat.le_refl _)) (fun h => by rw [Bd.returns] at h; cases h)
  refine ⟨_, _, S316 _ ?_, hrunT, hendT, _, _, rfl, ?_, hRW.1, hRW.2.1, hRW.2.2.1, hRW.2.2.2.mono (by decide) (by decide)⟩
  · show Steps p.tables e below (T305.setTop (mkF m 170 #[.val (.int p0), .val (.long q1), .second, .val (.long q2), .second, .val (.long q3), .second, .val (.int p4), .val (.int p5), .val (.int cc), .val (.long pp), .second, .val (.long pm), .second, .val (.int k1), .val (.int k2), .val (.ref b279), .val (.ref bb_302), .val (.long (f_later q3 (f_dru ((((0 : Int64) + pp) + ((k1.toInt64) * pp)) + ((k2.toInt64) * pp)) pm))), .second, .val (.long uu), .second, .val (.long ml), .second, .unset, .unset] [(.long (if ((9223372036854775807 : Int64) - ml) < q3 then (9223372036854775807 : Int64) else (q3 + ml)))])) _
    refine XS.lstore X305.here hx rfl (hb hby at_170) rfl (l' := #[.val (.int p0), .val (.long q1), .second, .val (.long q2), .second, .val (.long q3), .second, .val (.int p4), .val (.int p5), .val (.int cc), .val (.long pp), .second, .val (.long pm), .second, .val (.int k1), .val (.int k2), .val (.ref b279), .val (.ref bb_302), .val (.long (f_later q3 (f_dru ((((0 : Int64) + pp) + ((k1.toInt64) * pp)) + ((k2.toInt64) * pp)) pm))), .second, .val (.long uu), .second, .val (.long ml), .second, .val (.long (if ((9223372036854775807 : Int64) - ml) < q3 then (9223372036854775807 : Int64) else (q3 + ml))), .second]) rfl ?_
    show Steps p.tables e below (T305.setTop (mkF m 172 #[.val (.int p0), .val (.long q1), .second, .val (.long q2), .second, .val (.long q3), .second, .val (.int p4), .val (.int p5), .val (.int cc), .val (.long pp), .second, .val (.long pm), .second, .val (.int k1), .val (.int k2), .val (.ref b279), .val (.ref bb_302), .val (.long (f_later q3 (f_dru ((((0 : Int64) + pp) + ((k1.toInt64) * pp)) + ((k2.toInt64) * pp)) pm))), .second, .val (.long uu), .second, .val (.long ml), .second, .val (.long (if ((9223372036854775807 : Int64) - ml) < q3 then (9223372036854775807 : Int64) else (q3 + ml))), .second] [])) _
    refine XS.aload X305.here hx rfl (hb hby at_172) rfl rfl ?_
    show Steps p.tables e below (T305.setTop (mkF m 174 #[.val (.int p0), .val (.long q1), .second, .val (.long q2), .second, .val (.long q3), .second, .val (.int p4), .val (.int p5), .val (.int cc), .val (.long pp), .second, .val (.long pm), .second, .val (.int k1), .val (.int k2), .val (.ref b279), .val (.ref bb_302), .val (.long (f_later q3 (f_dru ((((0 : Int64) + pp) + ((k1.toInt64) * pp)) + ((k2.toInt64) * pp)) pm))), .second, .val (.long uu), .second, .val (.long ml), .second, .val (.long (if ((9223372036854775807 : Int64) - ml) < q3 then (9223372036854775807 : Int64) else (q3 + ml))), .second] [(.ref bb_302)])) _
    refine st317.trans ?_
    show Steps p.tables e below (T317.setTop (mkF m 177 #[.val (.int p0), .val (.long q1), .second, .val (.long q2), .second, .val (.long q3), .second, .val (.int p4), .val (.int p5), .val (.int cc), .val (.long pp), .second, .val (.long pm), .second, .val (.int k1), .val (.int k2), .val (.ref b279), .val (.ref bb_302), .val (.long (f_later q3 (f_dru ((((0 : Int64) + pp) + ((k1.toInt64) * pp)) + ((k2.toInt64) * pp)) pm))), .second, .val (.long uu), .second, .val (.long ml), .second, .val (.long (if ((9223372036854775807 : Int64) - ml) < q3 then (9223372036854775807 : Int64) else (q3 + ml))), .second] [(.int (cc - ((f_dru ((((0 : Int64) + pp) + ((k1.toInt64) * pp)) + ((k2.toInt64) * pp)) pp).toInt32)))])) _
    refine XS.iload X317.here hx rfl (hb hby at_177) rfl ?_
    show Steps p.tables e below (T317.setTop (mkF m 179 #[.val (.int p0), .val (.long q1), .second, .val (.long q2), .second, .val (.long q3), .second, .val (.int p4), .val (.int p5), .val (.int cc), .val (.long pp), .second, .val (.long pm), .second, .val (.int k1), .val (.int k2), .val (.ref b279), .val (.ref bb_302), .val (.long (f_later q3 (f_dru ((((0 : Int64) + pp) + ((k1.toInt64) * pp)) + ((k2.toInt64) * pp)) pm))), .second, .val (.long uu), .second, .val (.long ml), .second, .val (.long (if ((9223372036854775807 : Int64) - ml) < q3 then (9223372036854775807 : Int64) else (q3 + ml))), .second] [(.int cc), (.int (cc - ((f_dru ((((0 : Int64) + pp) + ((k1.toInt64) * pp)) + ((k2.toInt64) * pp)) pp).toInt32)))])) _
    refine XS.iconst X317.here hx rfl (hb hby at_179) ?_
    show Steps p.tables e below (T317.setTop (mkF m 180 #[.val (.int p0), .val (.long q1), .second, .val (.long q2), .second, .val (.long q3), .second, .val (.int p4), .val (.int p5), .val (.int cc), .val (.long pp), .second, .val (.long pm), .second, .val (.int k1), .val (.int k2), .val (.ref b279), .val (.ref bb_302), .val (.long (f_later q3 (f_dru ((((0 : Int64) + pp) + ((k1.toInt64) * pp)) + ((k2.toInt64) * pp)) pm))), .second, .val (.long uu), .second, .val (.long ml), .second, .val (.long (if ((9223372036854775807 : Int64) - ml) < q3 then (9223372036854775807 : Int64) else (q3 + ml))), .second] [(.int (1 : Int32)), (.int cc), (.int (cc - ((f_dru ((((0 : Int64) + pp) + ((k1.toInt64) * pp)) + ((k2.toInt64) * pp)) pp).toInt32)))])) _
    refine XS.isub X317.here hx rfl (hb hby at_180) rfl ?_
    show Steps p.tables e below (T317.setTop (mkF m 181 #[.val (.int p0), .val (.long q1), .second, .val (.long q2), .second, .val (.long q3), .second, .val (.int p4), .val (.int p5), .val (.int cc), .val (.long pp), .second, .val (.long pm), .second, .val (.int k1), .val (.int k2), .val (.ref b279), .val (.ref bb_302), .val (.long (f_later q3 (f_dru ((((0 : Int64) + pp) + ((k1.toInt64) * pp)) + ((k2.toInt64) * pp)) pm))), .second, .val (.long uu), .second, .val (.long ml), .second, .val (.long (if ((9223372036854775807 : Int64) - ml) < q3 then (9223372036854775807 : Int64) else (q3 + ml))), .second] [(.int (cc - (1 : Int32))), (.int (cc - ((f_dru ((((0 : Int64) + pp) + ((k1.toInt64) * pp)) + ((k2.toInt64) * pp)) pp).toInt32)))])) _
    refine XS.iload X317.here hx rfl (hb hby at_181) rfl ?_
    show Steps p.tables e below (T317.setTop (mkF m 183 #[.val (.int p0), .val (.long q1), .second, .val (.long q2), .second, .val (.long q3), .second, .val (.int p4), .val (.int p5), .val (.int cc), .val (.long pp), .second, .val (.long pm), .second, .val (.int k1), .val (.int k2), .val (.ref b279), .val (.ref bb_302), .val (.long (f_later q3 (f_dru ((((0 : Int64) + pp) + ((k1.toInt64) * pp)) + ((k2.toInt64) * pp)) pm))), .second, .val (.long uu), .second, .val (.long ml), .second, .val (.long (if ((9223372036854775807 : Int64) - ml) < q3 then (9223372036854775807 : Int64) else (q3 + ml))), .second] [(.int k1), (.int (cc - (1 : Int32))), (.int (cc - ((f_dru ((((0 : Int64) + pp) + ((k1.toInt64) * pp)) + ((k2.toInt64) * pp)) pp).toInt32)))])) _
    refine XS.isub X317.here hx rfl (hb hby at_183) rfl ?_
    show Steps p.tables e below (T317.setTop (mkF m 184 #[.val (.int p0), .val (.long q1), .second, .val (.long q2), .second, .val (.long q3), .second, .val (.int p4), .val (.int p5), .val (.int cc), .val (.long pp), .second, .val (.long pm), .second, .val (.int k1), .val (.int k2), .val (.ref b279), .val (.ref bb_302), .val (.long (f_later q3 (f_dru ((((0 : Int64) + pp) + ((k1.toInt64) * pp)) + ((k2.toInt64) * pp)) pm))), .second, .val (.long uu), .second, .val (.long ml), .second, .val (.long (if ((9223372036854775807 : Int64) - ml) < q3 then (9223372036854775807 : Int64) else (q3 + ml))), .second] [(.int ((cc - (1 : Int32)) - k1)), (.int (cc - ((f_dru ((((0 : Int64) + pp) + ((k1.toInt64) * pp)) + ((k2.toInt64) * pp)) pp).toInt32)))])) _
    refine XS.iload X317.here hx rfl (hb hby at_184) rfl ?_
    show Steps p.tables e below (T317.setTop (mkF m 186 #[.val (.int p0), .val (.long q1), .second, .val (.long q2), .second, .val (.long q3), .second, .val (.int p4), .val (.int p5), .val (.int cc), .val (.long pp), .second, .val (.long pm), .second, .val (.int k1), .val (.int k2), .val (.ref b279), .val (.ref bb_302), .val (.long (f_later q3 (f_dru ((((0 : Int64) + pp) + ((k1.toInt64) * pp)) + ((k2.toInt64) * pp)) pm))), .second, .val (.long uu), .second, .val (.long ml), .second, .val (.long (if ((9223372036854775807 : Int64) - ml) < q3 then (9223372036854775807 : Int64) else (q3 + ml))), .second] [(.int k2), (.int ((cc - (1 : Int32)) - k1)), (.int (cc - ((f_dru ((((0 : Int64) + pp) + ((k1.toInt64) * pp)) + ((k2.toInt64) * pp)) pp).toInt32)))])) _
    refine XS.isub X317.here hx rfl (hb hby at_186) rfl ?_
    show Steps p.tables e below (T317.setTop (mkF m 187 #[.val (.int p0), .val (.long q1), .second, .val (.long q2), .second, .val (.long q3), .second, .val (.int p4), .val (.int p5), .val (.int cc), .val (.long pp), .second, .val (.long pm), .second, .val (.int k1), .val (.int k2), .val (.ref b279), .val (.ref bb_302), .val (.long (f_later q3 (f_dru ((((0 : Int64) + pp) + ((k1.toInt64) * pp)) + ((k2.toInt64) * pp)) pm))), .second, .val (.long uu), .second, .val (.long ml), .second, .val (.long (if ((9223372036854775807 : Int64) - ml) < q3 then (9223372036854775807 : Int64) else (q3 + ml))), .second] [(.int (((cc - (1 : Int32)) - k1) - k2)), (.int (cc - ((f_dru ((((0 : Int64) + pp) + ((k1.toInt64) * pp)) + ((k2.toInt64) * pp)) pp).toInt32)))])) _
    refine XS.icmpNo X317.here hx rfl (hb hby at_187) rfl (XT.ii_ne_f (own_free hcc hpp hcp hk1 hk2 hkk hD)) ?_
    show Steps p.tables e below (T317.setTop (mkF m 190 #[.val (.int p0), .val (.long q1), .second, .val (.long q2), .second, .val (.long q3), .second, .val (.int p4), .val (.int p5), .val (.int cc), .val (.long pp), .second, .val (.long pm), .second, .val (.int k1), .val (.int k2), .val (.ref b279), .val (.ref bb_302), .val (.long (f_later q3 (f_dru ((((0 : Int64) + pp) + ((k1.toInt64) * pp)) + ((k2.toInt64) * pp)) pm))), .second, .val (.long uu), .second, .val (.long ml), .second, .val (.long (if ((9223372036854775807 : Int64) - ml) < q3 then (9223372036854775807 : Int64) else (q3 + ml))), .second] [])) _
    refine XS.aload X317.here hx rfl (hb hby at_190) rfl rfl ?_
    show Steps p.tables e below (T317.setTop (mkF m 192 #[.val (.int p0), .val (.long q1), .second, .val (.long q2), .second, .val (.long q3), .second, .val (.int p4), .val (.int p5), .val (.int cc), .val (.long pp), .second, .val (.long pm), .second, .val (.int k1), .val (.int k2), .val (.ref b279), .val (.ref bb_302), .val (.long (f_later q3 (f_dru ((((0 : Int64) + pp) + ((k1.toInt64) * pp)) + ((k2.toInt64) * pp)) pm))), .second, .val (.long uu), .second, .val (.long ml), .second, .val (.long (if ((9223372036854775807 : Int64) - ml) < q3 then (9223372036854775807 : Int64) else (q3 + ml))), .second] [(.ref bb_302)])) _
    refine st318.trans ?_
    show Steps p.tables e below (T318.setTop (mkF m 195 #[.val (.int p0), .val (.long q1), .second, .val (.long q2), .second, .val (.long q3), .second, .val (.int p4), .val (.int p5), .val (.int cc), .val (.long pp), .second, .val (.long pm), .second, .val (.int k1), .val (.int k2), .val (.ref b279), .val (.ref bb_302), .val (.long (f_later q3 (f_dru ((((0 : Int64) + pp) + ((k1.toInt64) * pp)) + ((k2.toInt64) * pp)) pm))), .second, .val (.long uu), .second, .val (.long ml), .second, .val (.long (if ((9223372036854775807 : Int64) - ml) < q3 then (9223372036854775807 : Int64) else (q3 + ml))), .second] [(.long q3)])) _
    refine XS.lload X318.here hx rfl (hb hby at_195) rfl ?_
    show Steps p.tables e below (T318.setTop (mkF m 197 #[.val (.int p0), .val (.long q1), .second, .val (.long q2), .second, .val (.long q3), .second, .val (.int p4), .val (.int p5), .val (.int cc), .val (.long pp), .second, .val (.long pm), .second, .val (.int k1), .val (.int k2), .val (.ref b279), .val (.ref bb_302), .val (.long (f_later q3 (f_dru ((((0 : Int64) + pp) + ((k1.toInt64) * pp)) + ((k2.toInt64) * pp)) pm))), .second, .val (.long uu), .second, .val (.long ml), .second, .val (.long (if ((9223372036854775807 : Int64) - ml) < q3 then (9223372036854775807 : Int64) else (q3 + ml))), .second] [(.long q3), (.long q3)])) _
    refine XT.lcmp X318.here hx rfl (hb hby at_197) rfl ?_
    show Steps p.tables e below (T318.setTop (mkF m 198 #[.val (.int p0), .val (.long q1), .second, .val (.long q2), .second, .val (.long q3), .second, .val (.int p4), .val (.int p5), .val (.int cc), .val (.long pp), .second, .val (.long pm), .second, .val (.int k1), .val (.int k2), .val (.ref b279), .val (.ref bb_302), .val (.long (f_later q3 (f_dru ((((0 : Int64) + pp) + ((k1.toInt64) * pp)) + ((k2.toInt64) * pp)) pm))), .second, .val (.long uu), .second, .val (.long ml), .second, .val (.long (if ((9223372036854775807 : Int64) - ml) < q3 then (9223372036854775807 : Int64) else (q3 + ml))), .second] [(.int (XT.cmpL q3 q3))])) _
    refine XS.ifNo X318.here hx rfl (hb hby at_198) rfl (XT.ll_ne_f rfl) ?_
    show Steps p.tables e below (T318.setTop (mkF m 201 #[.val (.int p0), .val (.long q1), .second, .val (.long q2), .second, .val (.long q3), .second, .val (.int p4), .val (.int p5), .val (.int cc), .val (.long pp), .second, .val (.long pm), .second, .val (.int k1), .val (.int k2), .val (.ref b279), .val (.ref bb_302), .val (.long (f_later q3 (f_dru ((((0 : Int64) + pp) + ((k1.toInt64) * pp)) + ((k2.toInt64) * pp)) pm))), .second, .val (.long uu), .second, .val (.long ml), .second, .val (.long (if ((9223372036854775807 : Int64) - ml) < q3 then (9223372036854775807 : Int64) else (q3 + ml))), .second] [])) _
    refine XS.aload X318.here hx rfl (hb hby at_201) rfl rfl ?_
    show Steps p.tables e below (T318.setTop (mkF m 203 #[.val (.int p0), .val (.long q1), .second, .val (.long q2), .second, .val (.long q3), .second, .val (.int p4), .val (.int p5), .val (.int cc), .val (.long pp), .second, .val (.long pm), .second, .val (.int k1), .val (.int k2), .val (.ref b279), .val (.ref bb_302), .val (.long (f_later q3 (f_dru ((((0 : Int64) + pp) + ((k1.toInt64) * pp)) + ((k2.toInt64) * pp)) pm))), .second, .val (.long uu), .second, .val (.long ml), .second, .val (.long (if ((9223372036854775807 : Int64) - ml) < q3 then (9223372036854775807 : Int64) else (q3 + ml))), .second] [(.ref bb_302)])) _
    refine st319.trans ?_
    show Steps p.tables e below (T319.setTop (mkF m 206 #[.val (.int p0), .val (.long q1), .second, .val (.long q2), .second, .val (.long q3), .second, .val (.int p4), .val (.int p5), .val (.int cc), .val (.long pp), .second, .val (.long pm), .second, .val (.int k1), .val (.int k2), .val (.ref b279), .val (.ref bb_302), .val (.long (f_later q3 (f_dru ((((0 : Int64) + pp) + ((k1.toInt64) * pp)) + ((k2.toInt64) * pp)) pm))), .second, .val (.long uu), .second, .val (.long ml), .second, .val (.long (if ((9223372036854775807 : Int64) - ml) < q3 then (9223372036854775807 : Int64) else (q3 + ml))), .second] [(.long q3)])) _
    refine XS.lload X319.here hx rfl (hb hby at_206) rfl ?_
    show Steps p.tables e below (T319.setTop (mkF m 208 #[.val (.int p0), .val (.long q1), .second, .val (.long q2), .second, .val (.long q3), .second, .val (.int p4), .val (.int p5), .val (.int cc), .val (.long pp), .second, .val (.long pm), .second, .val (.int k1), .val (.int k2), .val (.ref b279), .val (.ref bb_302), .val (.long (f_later q3 (f_dru ((((0 : Int64) + pp) + ((k1.toInt64) * pp)) + ((k2.toInt64) * pp)) pm))), .second, .val (.long uu), .second, .val (.long ml), .second, .val (.long (if ((9223372036854775807 : Int64) - ml) < q3 then (9223372036854775807 : Int64) else (q3 + ml))), .second] [(.long q3), (.long q3)])) _
    refine XT.lcmp X319.here hx rfl (hb hby at_208) rfl ?_
    show Steps p.tables e below (T319.setTop (mkF m 209 #[.val (.int p0), .val (.long q1), .second, .val (.long q2), .second, .val (.long q3), .second, .val (.int p4), .val (.int p5), .val (.int cc), .val (.long pp), .second, .val (.long pm), .second, .val (.int k1), .val (.int k2), .val (.ref b279), .val (.ref bb_302), .val (.long (f_later q3 (f_dru ((((0 : Int64) + pp) + ((k1.toInt64) * pp)) + ((k2.toInt64) * pp)) pm))), .second, .val (.long uu), .second, .val (.long ml), .second, .val (.long (if ((9223372036854775807 : Int64) - ml) < q3 then (9223372036854775807 : Int64) else (q3 + ml))), .second] [(.int (XT.cmpL q3 q3))])) _
    refine XS.ifNo X319.here hx rfl (hb hby at_209) rfl (XT.ll_ne_f rfl) ?_
    show Steps p.tables e below (T319.setTop (mkF m 212 #[.val (.int p0), .val (.long q1), .second, .val (.long q2), .second, .val (.long q3), .second, .val (.int p4), .val (.int p5), .val (.int cc), .val (.long pp), .second, .val (.long pm), .second, .val (.int k1), .val (.int k2), .val (.ref b279), .val (.ref bb_302), .val (.long (f_later q3 (f_dru ((((0 : Int64) + pp) + ((k1.toInt64) * pp)) + ((k2.toInt64) * pp)) pm))), .second, .val (.long uu), .second, .val (.long ml), .second, .val (.long (if ((9223372036854775807 : Int64) - ml) < q3 then (9223372036854775807 : Int64) else (q3 + ml))), .second] [])) _
    refine XS.lload X319.here hx rfl (hb hby at_212) rfl ?_
    show Steps p.tables e below (T319.setTop (mkF m 214 #[.val (.int p0), .val (.long q1), .second, .val (.long q2), .second, .val (.long q3), .second, .val (.int p4), .val (.int p5), .val (.int cc), .val (.long pp), .second, .val (.long pm), .second, .val (.int k1), .val (.int k2), .val (.ref b279), .val (.ref bb_302), .val (.long (f_later q3 (f_dru ((((0 : Int64) + pp) + ((k1.toInt64) * pp)) + ((k2.toInt64) * pp)) pm))), .second, .val (.long uu), .second, .val (.long ml), .second, .val (.long (if ((9223372036854775807 : Int64) - ml) < q3 then (9223372036854775807 : Int64) else (q3 + ml))), .second] [(.long (f_later q3 (f_dru ((((0 : Int64) + pp) + ((k1.toInt64) * pp)) + ((k2.toInt64) * pp)) pm)))])) _
    refine XS.lload X319.here hx rfl (hb hby at_214) rfl ?_
    show Steps p.tables e below (T319.setTop (mkF m 216 #[.val (.int p0), .val (.long q1), .second, .val (.long q2), .second, .val (.long q3), .second, .val (.int p4), .val (.int p5), .val (.int cc), .val (.long pp), .second, .val (.long pm), .second, .val (.int k1), .val (.int k2), .val (.ref b279), .val (.ref bb_302), .val (.long (f_later q3 (f_dru ((((0 : Int64) + pp) + ((k1.toInt64) * pp)) + ((k2.toInt64) * pp)) pm))), .second, .val (.long uu), .second, .val (.long ml), .second, .val (.long (if ((9223372036854775807 : Int64) - ml) < q3 then (9223372036854775807 : Int64) else (q3 + ml))), .second] [(.long (if ((9223372036854775807 : Int64) - ml) < q3 then (9223372036854775807 : Int64) else (q3 + ml))), (.long (f_later q3 (f_dru ((((0 : Int64) + pp) + ((k1.toInt64) * pp)) + ((k2.toInt64) * pp)) pm)))])) _
    refine XT.lcmp X319.here hx rfl (hb hby at_216) rfl ?_
    show Steps p.tables e below (T319.setTop (mkF m 217 #[.val (.int p0), .val (.long q1), .second, .val (.long q2), .second, .val (.long q3), .second, .val (.int p4), .val (.int p5), .val (.int cc), .val (.long pp), .second, .val (.long pm), .second, .val (.int k1), .val (.int k2), .val (.ref b279), .val (.ref bb_302), .val (.long (f_later q3 (f_dru ((((0 : Int64) + pp) + ((k1.toInt64) * pp)) + ((k2.toInt64) * pp)) pm))), .second, .val (.long uu), .second, .val (.long ml), .second, .val (.long (if ((9223372036854775807 : Int64) - ml) < q3 then (9223372036854775807 : Int64) else (q3 + ml))), .second] [(.int (XT.cmpL (f_later q3 (f_dru ((((0 : Int64) + pp) + ((k1.toInt64) * pp)) + ((k2.toInt64) * pp)) pm)) (if ((9223372036854775807 : Int64) - ml) < q3 then (9223372036854775807 : Int64) else (q3 + ml))))])) _
    refine XS.ifNo X319.here hx rfl (hb hby at_217) rfl (XT.ll_ne_f (own_last hpm ⟨by omega, hDb.2⟩ (by rw [hd_uu, hD, own_units hcc hpp hcp hk1 hk2 hkk]) hd_ml)) ?_
    show Steps p.tables e below (T319.setTop (mkF m 220 #[.val (.int p0), .val (.long q1), .second, .val (.long q2), .second, .val (.long q3), .second, .val (.int p4), .val (.int p5), .val (.int cc), .val (.long pp), .second, .val (.long pm), .second, .val (.int k1), .val (.int k2), .val (.ref b279), .val (.ref bb_302), .val (.long (f_later q3 (f_dru ((((0 : Int64) + pp) + ((k1.toInt64) * pp)) + ((k2.toInt64) * pp)) pm))), .second, .val (.long uu), .second, .val (.long ml), .second, .val (.long (if ((9223372036854775807 : Int64) - ml) < q3 then (9223372036854775807 : Int64) else (q3 + ml))), .second] [])) _
    refine XS.iconst X319.here hx rfl (hb hby at_220) ?_
    show Steps p.tables e below (T319.setTop (mkF m 221 #[.val (.int p0), .val (.long q1), .second, .val (.long q2), .second, .val (.long q3), .second, .val (.int p4), .val (.int p5), .val (.int cc), .val (.long pp), .second, .val (.long pm), .second, .val (.int k1), .val (.int k2), .val (.ref b279), .val (.ref bb_302), .val (.long (f_later q3 (f_dru ((((0 : Int64) + pp) + ((k1.toInt64) * pp)) + ((k2.toInt64) * pp)) pm))), .second, .val (.long uu), .second, .val (.long ml), .second, .val (.long (if ((9223372036854775807 : Int64) - ml) < q3 then (9223372036854775807 : Int64) else (q3 + ml))), .second] [(.int (1 : Int32))])) _
    refine XS.goto X319.here hx rfl (pc0 := 221) (pc' := 225) rfl (hb hby at_221) (by decide) (by decide) ?_
    show Steps p.tables e below (T319.setTop (mkF m 225 #[.val (.int p0), .val (.long q1), .second, .val (.long q2), .second, .val (.long q3), .second, .val (.int p4), .val (.int p5), .val (.int cc), .val (.long pp), .second, .val (.long pm), .second, .val (.int k1), .val (.int k2), .val (.ref b279), .val (.ref bb_302), .val (.long (f_later q3 (f_dru ((((0 : Int64) + pp) + ((k1.toInt64) * pp)) + ((k2.toInt64) * pp)) pm))), .second, .val (.long uu), .second, .val (.long ml), .second, .val (.long (if ((9223372036854775807 : Int64) - ml) < q3 then (9223372036854775807 : Int64) else (q3 + ml))), .second] [(.int (1 : Int32))])) _
    exact retN X319 hx (t := .boolean) Bd.returns (by simp) (hb hby at_225) hrT
  · show Q0 Z p0 q1 q2 q3 p4 p5 vz h0 n0 _ T319.heap _
    rw [e319]
    exact ⟨rfl, N319⟩
set_option maxRecDepth 65536 in
set_option maxHeartbeats 40000000 in
theorem comes_1 {Post : Tables → Env → Array Value → State → Outcome → State → Prop} (hpost : ∀ tb e args s v u, (limb_1_1.after args s (.returned v) u = true ∧ limb_1_2.after args s (.returned v) u = true ∧ True) → ReturnedEndW s (.returned v) u (Jvm.fieldLocs frame_1_writes args s ++ Jvm.arrayLocs frame_1_arrays args s ++ Jvm.staticLocs frame_1_statics s) 24 1152 → Post tb e args s (.returned v) u) :
    ArmFor flags0 classFile x code maxLocals ret World_1 tables_1 room_1 Calls_1 rest_1 Pre_1 Post := by
  intro l hfl _ _ p e ha hc hk s m args below hf hA hF happ hP
  obtain ⟨hcalls, hrest, hpre⟩ := hP
  obtain ⟨-, -, -, hnamed, -, -, -, hat⟩ := (Spec.applies_iff hf).mp happ
  obtain ⟨hg, hn⟩ := and_e (Cond.before_iff.mp (show (Jvm.Cond.and given_1 narrow_1).before args s = true from hpre))
  obtain ⟨gc, gr0⟩ := and_e hg
  obtain ⟨ga0, gr1⟩ := and_e gr0
  obtain ⟨ga1, gr2⟩ := and_e gr1
  obtain ⟨ga2, gr3⟩ := and_e gr2
  obtain ⟨ga3, gr4⟩ := and_e gr3
  obtain ⟨ga4, gr5⟩ := and_e gr4
  have ga5 := gr5
  obtain ⟨w0, w1, w2, w3, w4, w5, rfl⟩ : ∃ w0 w1 w2 w3 w4 w5 : Value, args = #[w0, w1, w2, w3, w4, w5] := by
    have hs : args.size = 6 := by simpa [Cond.value, given_1] using gc
    obtain ⟨L⟩ := args
    match L, hs with
    | [w0, w1, w2, w3, w4, w5], _ => exact ⟨w0, w1, w2, w3, w4, w5, rfl⟩
  have hw := fun d (hd : d ∈ tables_1) => atoms_spec (ws := Jvm.Cond.code x code maxLocals ret :: tables_1) hat d (List.mem_cons_of_mem _ hd)
  have hfit : Fit s := fun {y c} hc i hi => by
    obtain ⟨ha, rfl⟩ := Array.getElem?_eq_some_iff.mp hc
    have q := List.all_eq_true.mp ((Array.all_eq_true_iff_forall_mem.mp hF) _ (Array.getElem_mem ha)) i (List.mem_range.mpr hi)
    simpa [Array.getElem?_eq_getElem hi] using q
  obtain ⟨hsets, hown0⟩ := atoms_of _ (rest_1_c_eq ▸ (show rest_1_c.before _ s = true from hrest))
  obtain ⟨i0, ei0⟩ := is_v ga0
  obtain rfl : w0 = (.int i0) := Option.some.inj ei0
  obtain ⟨i1, ei1⟩ := isL_v ga1
  obtain rfl : w1 = (.long i1) := Option.some.inj ei1
  obtain ⟨i2, ei2⟩ := isL_v ga2
  obtain rfl : w2 = (.long i2) := Option.some.inj ei2
  obtain ⟨i3, ei3⟩ := isL_v ga3
  obtain rfl : w3 = (.long i3) := Option.some.inj ei3
  obtain ⟨i4, ei4⟩ := is_v ga4
  obtain rfl : w4 = (.int i4) := Option.some.inj ei4
  obtain ⟨i5, ei5⟩ := is_v ga5
  obtain rfl : w5 = (.int i5) := Option.some.inj ei5
  obtain ⟨vz, evz⟩ := exa_v (Cond.before_iff.mp (hsets _ (List.mem_of_getElem? (i := 2) rfl)))
  have Sz := Sta.start evz (Or.inl (hsets _ (List.mem_of_getElem? (i := 1) rfl)))
  obtain ⟨n, o, h1, h2, h3, _, L, rfl, ⟨rfl, N⟩, hq⟩ := rm0 l s _ hw tables_1 i0 i1 i2 i3 i4 i5 vz s.heap s.heap.size (Nat.le_refl _) Sz p e ha hc hk s m _ below hf ((Spec.applies_iff_loose hf).mp happ).1 ⟨rfl, State.Warmed39.refl s, rfl⟩ trivial
  refine ⟨n, _, h1, h2, h3, hpost _ _ _ _ _ _ ⟨Cond.after_iff.mpr rfl, Cond.after_iff.mpr (eq_i res_at (Term.int_eval (1)) rfl), trivial⟩ ⟨hq.1, hq.2.1, hq.2.2.1, (hq.2.2.2.sift fun y hy => Or.inr (N y hy)).mono (by decide) (by decide)⟩⟩
theorem main_1_1 : Claimed_1_1 := comes_1 fun _ _ _ _ _ _ h hF => ⟨h.1, hF⟩
theorem main_1_2 : Claimed_1_2 := comes_1 fun _ _ _ _ _ _ h hF => ⟨h.2.1, hF⟩
end Jvm.Pilot.@@N@@
namespace Jvm.Pilot.@@N@@
open Jvm Jvm.ClassFile Sem Op Lib Jvm.Free Jvm.Stand Jvm.Pilot.@@N@@.Jvm.D
/-! MADE BY PROGRAM (witnessworld.py) out of the Statement's table words and the real class files: 25 classes; the members and pool entries that the words name. The judged class is class 1, her method 1. -/
namespace start1
open Jvm.ClassFile
def u (s : String) : CpInfo := .utf8 (stringToUtf16 s)
/-- a pool by its gaps: so many unusable entries, then the entry; so many at the end -/
def gap : Nat → List CpInfo → List CpInfo
  | 0, r => r
  | n + 1, r => .unusable :: gap n r
def poolList (es : List (Nat × CpInfo)) (last : Nat) : List CpInfo := es.foldr (fun e r => gap e.1 (e.2 :: r)) (gap last [])
def pool (es : List (Nat × CpInfo)) (last : Nat) : Array CpInfo := ⟨poolList es last⟩
def fileOf (pool : Array CpInfo) (this : Nat) (attrs : Array Attribute := #[]) (ms : Array MethodInfo := #[]) (fl : Nat := 33) (sup : Nat := 0) (ifs : Array Nat := #[]) (fds : Array FieldInfo := #[]) : ClassFile where
  minorVersion := 0
  majorVersion := 65
  constantPool := pool
  accessFlags := fl
  thisClass := this
  superClass := sup
  interfaces := ifs
  fields := fds
  methods := ms
  attributes := attrs
def plain (name : String) (sup : Option ClassId) : Class where
  name := name
  kind := .ordinary
  loader := none
  accessFlags := 33
  super := sup
  interfaces := #[]
  cf := none
  fields := #[]
  methods := #[]
  instanceTypes := #[]
  staticTypes := #[]
  resolved := #[]
  callSites := []
  init := .initialized
  statics := none
  mirror := none

def pool0 : Array CpInfo := pool [(5, u "<init>"), (0, u "()V"), (1, .class_ 10), (1, u "java/lang/Object")] 113

def k0c0 : Code := { maxStack := 0, maxLocals := 1, code := object_method_1_code, exceptionTable := #[], attributes := #[] }
def k0m0 : Method := { name := "<init>", desc := "()V", sig := { parameters := [], returnType := none }, accessFlags := 1, code := some k0c0 }
/-- java/lang/Object -/
def k0 : Class := { plain "java/lang/Object" none with
  accessFlags := 33
  interfaces := #[]
  cf := some (fileOf pool0 8 #[] #[{ accessFlags := 1, nameIndex := 5, descriptorIndex := 6, attributes := #[] }] 33 0 #[] #[])
  fields := #[]
  methods := #[k0m0]
  instanceTypes := #[]
  staticTypes := #[]
  resolved := Array.replicate 124 none
  statics := none }

def pool1 : Array CpInfo := pool [(2, .class_ 4), (1, u "java/lang/Object"), (0, u "<init>"), (0, u "()V"), (0, .integer 2147483647), (0, .methodref 9 10), (0, .class_ 11), (0, .nameAndType 12 13), (0, u "java/lang/Math"), (0, u "max"), (0, u "(II)I"), (2, .long 9223372036854775807), (1, .class_ 19), (0, u "com/example/even_bucket/evenbucket/GreedyBucket"), (0, .long 4503599627370496), (1, .long 2147483647), (1, .methodref 18 25), (0, .nameAndType 5 26), (0, u "(IJJ)V"), (0, .methodref 18 28), (0, .nameAndType 29 30), (0, u "tryAcquire"), (0, u "(J)Lcom/example/even_bucket/evenbucket/Decision;"), (0, .methodref 18 32), (0, .nameAndType 33 34), (0, u "recordAtLatestDecision"), (0, u "(I)V"), (0, .methodref 18 36), (0, .nameAndType 37 38), (0, u "moment"), (0, u "()Lcom/example/even_bucket/evenbucket/Admissions$Moment;"), (0, .methodref 18 40), (0, .nameAndType 41 42), (0, u "idleAfter"), (0, u "()J"), (0, .methodref 44 45), (0, .class_ 46), (0, .nameAndType 47 48), (0, u "com/example/even_bucket/evenbucket/Admissions$Moment"), (0, u "free"), (0, u "()I"), (0, .methodref 44 50), (0, .nameAndType 51 42), (0, u "millis"), (0, .methodref 44 53), (0, .nameAndType 54 42), (0, u "newest"), (0, .class_ 56), (0, u "com/example/even_bucket/evenbucket/GreedyBucketRecordAtLatestDecisionPinLaw"), (2, u "law"), (0, u "(IJJJII)Z")] 7

def k1m0 : Method := { name := "<init>", desc := "()V", sig := { parameters := [], returnType := none }, accessFlags := 1, code := none }
def k1c1 : Code := { maxStack := 8, maxLocals := 26, code := code, exceptionTable := #[], attributes := #[] }
def k1m1 : Method := { name := "law", desc := "(IJJJII)Z", sig := { parameters := [.int, .long, .long, .long, .int, .int], returnType := some .boolean }, accessFlags := 9, code := some k1c1 }
/-- com/example/even_bucket/evenbucket/GreedyBucketRecordAtLatestDecisionPinLaw -/
def k1 : Class := { plain "com/example/even_bucket/evenbucket/GreedyBucketRecordAtLatestDecisionPinLaw" (some 0) with
  accessFlags := 49
  interfaces := #[]
  cf := some (fileOf pool1 55 #[] #[{ accessFlags := 1, nameIndex := 5, descriptorIndex := 6, attributes := #[] }, { accessFlags := 9, nameIndex := 59, descriptorIndex := 60, attributes := #[] }] 49 2 #[] #[])
  fields := #[]
  methods := #[k1m0, k1m1]
  instanceTypes := #[]
  staticTypes := #[]
  resolved := Array.replicate 68 none
  statics := none }

def pool2 : Array CpInfo := pool [(1, .class_ 2), (0, u "java/lang/Math"), (1, .class_ 6), (1, u "java/lang/Object"), (0, u "<init>"), (0, u "()V"), (89, .class_ 100), (1, u "java/lang/Math$RandomNumberGeneratorHolder"), (71, u "negativeZeroFloatBits"), (0, u "J"), (2, u "negativeZeroDoubleBits"), (21, u "max"), (46, u "$assertionsDisabled"), (0, u "Z"), (88, u "(II)I"), (2, u "twoToTheDoubleScaleDown"), (0, u "D"), (4, u "twoToTheDoubleScaleUp"), (9, u "E"), (3, u "PI"), (2, u "TAU"), (2, u "DEGREES_TO_RADIANS"), (0, u "RADIANS_TO_DEGREES")] 94

def k2m0 : Method := { name := "<init>", desc := "()V", sig := { parameters := [], returnType := none }, accessFlags := 2, code := none }
def k2c1 : Code := { maxStack := 2, maxLocals := 2, code := jdk_29_method_65_code, exceptionTable := #[], attributes := #[] }
def k2m1 : Method := { name := "max", desc := "(II)I", sig := { parameters := [.int, .int], returnType := some .int }, accessFlags := 9, code := some k2c1 }
/-- java/lang/Math -/
def k2 : Class := { plain "java/lang/Math" (some 0) with
  accessFlags := 49
  interfaces := #[]
  cf := some (fileOf pool2 1 #[.nestMembers #[98]] #[{ accessFlags := 2, nameIndex := 7, descriptorIndex := 8, attributes := #[] }, { accessFlags := 9, nameIndex := 198, descriptorIndex := 335, attributes := #[] }] 49 4 #[] #[{ accessFlags := 25, nameIndex := 354, descriptorIndex := 339, attributes := #[] }, { accessFlags := 25, nameIndex := 358, descriptorIndex := 339, attributes := #[] }, { accessFlags := 25, nameIndex := 361, descriptorIndex := 339, attributes := #[] }, { accessFlags := 26, nameIndex := 364, descriptorIndex := 339, attributes := #[] }, { accessFlags := 26, nameIndex := 365, descriptorIndex := 339, attributes := #[] }, { accessFlags := 26, nameIndex := 172, descriptorIndex := 173, attributes := #[] }, { accessFlags := 26, nameIndex := 176, descriptorIndex := 173, attributes := #[] }, { accessFlags := 8, nameIndex := 344, descriptorIndex := 339, attributes := #[] }, { accessFlags := 8, nameIndex := 338, descriptorIndex := 339, attributes := #[] }, { accessFlags := 4120, nameIndex := 245, descriptorIndex := 246, attributes := #[] }])
  fields := #[{ name := "E", type := .double, accessFlags := 25, slot := 0, constantValue := 0 }, { name := "PI", type := .double, accessFlags := 25, slot := 1, constantValue := 0 }, { name := "TAU", type := .double, accessFlags := 25, slot := 2, constantValue := 0 }, { name := "DEGREES_TO_RADIANS", type := .double, accessFlags := 26, slot := 3, constantValue := 0 }, { name := "RADIANS_TO_DEGREES", type := .double, accessFlags := 26, slot := 4, constantValue := 0 }, { name := "negativeZeroFloatBits", type := .long, accessFlags := 26, slot := 5, constantValue := 0 }, { name := "negativeZeroDoubleBits", type := .long, accessFlags := 26, slot := 6, constantValue := 0 }, { name := "twoToTheDoubleScaleUp", type := .double, accessFlags := 8, slot := 7, constantValue := 0 }, { name := "twoToTheDoubleScaleDown", type := .double, accessFlags := 8, slot := 8, constantValue := 0 }, { name := "$assertionsDisabled", type := .boolean, accessFlags := 4120, slot := 9, constantValue := 0 }]
  methods := #[k2m0, k2m1]
  instanceTypes := #[]
  staticTypes := #[.double, .double, .double, .double, .double, .long, .long, .double, .double, .boolean]
  resolved := Array.replicate 460 none
  statics := none }

def pool3 : Array CpInfo := pool [(3, .long 9223372036854775807), (1, .class_ 6), (0, u "com/example/even_bucket/evenbucket/Admissions"), (0, .class_ 8), (0, u "java/lang/Object"), (9, u "later"), (0, u "(JJ)J"), (6, .class_ 27), (0, u "com/example/even_bucket/evenbucket/Admissions$Moment")] 2

def k3c0 : Code := { maxStack := 6, maxLocals := 4, code := prog_11_method_6_code, exceptionTable := #[], attributes := #[] }
def k3m0 : Method := { name := "later", desc := "(JJ)J", sig := { parameters := [.long, .long], returnType := some .long }, accessFlags := 9, code := some k3c0 }
/-- com/example/even_bucket/evenbucket/Admissions -/
def k3 : Class := { plain "com/example/even_bucket/evenbucket/Admissions" (some 0) with
  accessFlags := 1536
  interfaces := #[]
  cf := some (fileOf pool3 5 #[.nestMembers #[26]] #[{ accessFlags := 9, nameIndex := 18, descriptorIndex := 19, attributes := #[] }] 1536 7 #[] #[])
  fields := #[]
  methods := #[k3m0]
  instanceTypes := #[]
  staticTypes := #[]
  resolved := Array.replicate 30 none
  statics := none }

def pool4 : Array CpInfo := pool [(1, .methodref 2 3), (0, .class_ 4), (0, .nameAndType 5 6), (0, u "java/lang/Object"), (0, u "<init>"), (0, u "()V"), (0, .fieldref 8 9), (0, .class_ 10), (0, .nameAndType 11 12), (0, u "com/example/even_bucket/evenbucket/GreedyBucket"), (0, u "capacity"), (0, u "I"), (0, .fieldref 8 14), (0, .nameAndType 15 16), (0, u "unitsPerMilli"), (0, u "J"), (0, .fieldref 8 18), (0, .nameAndType 19 16), (0, u "unitsPerPermit"), (0, .fieldref 8 21), (0, .nameAndType 22 16), (0, u "mostDeficitWithAPermit"), (3, u "(JJ)J"), (0, .fieldref 8 28), (0, .nameAndType 29 30), (0, u "admitted"), (0, u "Z"), (0, .fieldref 8 32), (0, .nameAndType 33 16), (0, u "newest"), (5, .fieldref 8 40), (0, .nameAndType 41 16), (0, u "decidedAt"), (0, .methodref 8 43), (0, .nameAndType 44 45), (0, u "deficitAt"), (0, u "(J)J"), (0, .methodref 8 47), (0, .nameAndType 48 49), (0, u "refusal"), (0, u "(J)Lcom/example/even_bucket/evenbucket/Decision;"), (0, .fieldref 8 51), (0, .nameAndType 52 16), (0, u "deficit"), (0, .methodref 8 54), (0, .nameAndType 55 56), (0, u "freeWith"), (0, u "(J)I"), (0, .methodref 58 59), (0, .class_ 60), (0, .nameAndType 61 49), (0, u "com/example/even_bucket/evenbucket/Decision"), (0, u "allow"), (0, .class_ 63), (0, u "com/example/even_bucket/evenbucket/Admissions$Moment"), (0, .methodref 62 65), (0, .nameAndType 5 66), (0, u "(JIJLcom/example/even_bucket/evenbucket/Decision;)V"), (0, .methodref 8 68), (0, .nameAndType 69 26), (0, u "divideRoundingUp"), (0, .interfaceMethodref 71 72), (0, .class_ 73), (0, .nameAndType 74 26), (0, u "com/example/even_bucket/evenbucket/Admissions"), (0, u "later"), (0, .methodref 76 77), (0, .class_ 78), (0, .nameAndType 79 80), (0, u "java/lang/Long"), (0, u "compareUnsigned"), (0, u "(JJ)I"), (0, .methodref 8 82), (0, .nameAndType 83 26), (0, u "untilAPermit"), (0, .methodref 85 86), (0, .class_ 87), (0, .nameAndType 88 89), (0, u "java/time/Duration"), (0, u "ofMillis"), (0, u "(J)Ljava/time/Duration;"), (0, .methodref 58 91), (0, .nameAndType 92 93), (0, u "refuse"), (0, u "(Ljava/time/Duration;)Lcom/example/even_bucket/evenbucket/Decision;"), (0, u "MOST_UNITS"), (3, u "(IJJ)V"), (3, u "tryAcquire"), (1, u "()J"), (0, u "moment"), (0, u "()Lcom/example/even_bucket/evenbucket/Admissions$Moment;"), (0, u "recordAtLatestDecision"), (0, u "(I)V"), (0, u "idleAfter")] 4

def k4c0 : Code := { maxStack := 5, maxLocals := 6, code := prog_26_method_1_code, exceptionTable := #[], attributes := #[] }
def k4m0 : Method := { name := "<init>", desc := "(IJJ)V", sig := { parameters := [.int, .long, .long], returnType := none }, accessFlags := 0, code := some k4c0 }
def k4c1 : Code := { maxStack := 5, maxLocals := 7, code := prog_26_method_4_code, exceptionTable := #[], attributes := #[] }
def k4m1 : Method := { name := "tryAcquire", desc := "(J)Lcom/example/even_bucket/evenbucket/Decision;", sig := { parameters := [.long], returnType := some (.object "com/example/even_bucket/evenbucket/Decision") }, accessFlags := 1, code := some k4c1 }
def k4c2 : Code := { maxStack := 14, maxLocals := 4, code := prog_26_method_6_code, exceptionTable := #[], attributes := #[] }
def k4m2 : Method := { name := "moment", desc := "()Lcom/example/even_bucket/evenbucket/Admissions$Moment;", sig := { parameters := [], returnType := some (.object "com/example/even_bucket/evenbucket/Admissions$Moment") }, accessFlags := 1, code := some k4c2 }
def k4c3 : Code := { maxStack := 7, maxLocals := 2, code := prog_26_method_7_code, exceptionTable := #[], attributes := #[] }
def k4m3 : Method := { name := "recordAtLatestDecision", desc := "(I)V", sig := { parameters := [.int], returnType := none }, accessFlags := 1, code := some k4c3 }
def k4c4 : Code := { maxStack := 6, maxLocals := 1, code := prog_26_method_8_code, exceptionTable := #[], attributes := #[] }
def k4m4 : Method := { name := "idleAfter", desc := "()J", sig := { parameters := [], returnType := some .long }, accessFlags := 1, code := some k4c4 }
def k4c5 : Code := { maxStack := 4, maxLocals := 4, code := prog_26_method_9_code, exceptionTable := #[], attributes := #[] }
def k4m5 : Method := { name := "untilAPermit", desc := "(JJ)J", sig := { parameters := [.long, .long], returnType := some .long }, accessFlags := 8, code := some k4c5 }
def k4c6 : Code := { maxStack := 6, maxLocals := 7, code := prog_26_method_10_code, exceptionTable := #[], attributes := #[] }
def k4m6 : Method := { name := "deficitAt", desc := "(J)J", sig := { parameters := [.long], returnType := some .long }, accessFlags := 2, code := some k4c6 }
def k4c7 : Code := { maxStack := 5, maxLocals := 3, code := prog_26_method_11_code, exceptionTable := #[], attributes := #[] }
def k4m7 : Method := { name := "freeWith", desc := "(J)I", sig := { parameters := [.long], returnType := some .int }, accessFlags := 2, code := some k4c7 }
def k4c8 : Code := { maxStack := 4, maxLocals := 5, code := prog_26_method_12_code, exceptionTable := #[], attributes := #[] }
def k4m8 : Method := { name := "refusal", desc := "(J)Lcom/example/even_bucket/evenbucket/Decision;", sig := { parameters := [.long], returnType := some (.object "com/example/even_bucket/evenbucket/Decision") }, accessFlags := 2, code := some k4c8 }
def k4c9 : Code := { maxStack := 4, maxLocals := 4, code := prog_26_method_13_code, exceptionTable := #[], attributes := #[] }
def k4m9 : Method := { name := "divideRoundingUp", desc := "(JJ)J", sig := { parameters := [.long, .long], returnType := some .long }, accessFlags := 10, code := some k4c9 }
/-- com/example/even_bucket/evenbucket/GreedyBucket -/
def k4 : Class := { plain "com/example/even_bucket/evenbucket/GreedyBucket" (some 0) with
  accessFlags := 32
  interfaces := #[3]
  cf := some (fileOf pool4 8 #[] #[{ accessFlags := 0, nameIndex := 5, descriptorIndex := 98, attributes := #[] }, { accessFlags := 1, nameIndex := 102, descriptorIndex := 49, attributes := #[] }, { accessFlags := 1, nameIndex := 105, descriptorIndex := 106, attributes := #[] }, { accessFlags := 1, nameIndex := 107, descriptorIndex := 108, attributes := #[] }, { accessFlags := 1, nameIndex := 109, descriptorIndex := 104, attributes := #[] }, { accessFlags := 8, nameIndex := 83, descriptorIndex := 26, attributes := #[] }, { accessFlags := 2, nameIndex := 44, descriptorIndex := 45, attributes := #[] }, { accessFlags := 2, nameIndex := 55, descriptorIndex := 56, attributes := #[] }, { accessFlags := 2, nameIndex := 48, descriptorIndex := 49, attributes := #[] }, { accessFlags := 10, nameIndex := 69, descriptorIndex := 26, attributes := #[] }] 32 2 #[71] #[{ accessFlags := 24, nameIndex := 94, descriptorIndex := 16, attributes := #[] }, { accessFlags := 18, nameIndex := 11, descriptorIndex := 12, attributes := #[] }, { accessFlags := 18, nameIndex := 15, descriptorIndex := 16, attributes := #[] }, { accessFlags := 18, nameIndex := 19, descriptorIndex := 16, attributes := #[] }, { accessFlags := 18, nameIndex := 22, descriptorIndex := 16, attributes := #[] }, { accessFlags := 2, nameIndex := 52, descriptorIndex := 16, attributes := #[] }, { accessFlags := 2, nameIndex := 33, descriptorIndex := 16, attributes := #[] }, { accessFlags := 2, nameIndex := 29, descriptorIndex := 30, attributes := #[] }, { accessFlags := 2, nameIndex := 41, descriptorIndex := 16, attributes := #[] }])
  fields := #[{ name := "MOST_UNITS", type := .long, accessFlags := 24, slot := 0, constantValue := 0 }, { name := "capacity", type := .int, accessFlags := 18, slot := 0, constantValue := 0 }, { name := "unitsPerMilli", type := .long, accessFlags := 18, slot := 1, constantValue := 0 }, { name := "unitsPerPermit", type := .long, accessFlags := 18, slot := 2, constantValue := 0 }, { name := "mostDeficitWithAPermit", type := .long, accessFlags := 18, slot := 3, constantValue := 0 }, { name := "deficit", type := .long, accessFlags := 2, slot := 4, constantValue := 0 }, { name := "newest", type := .long, accessFlags := 2, slot := 5, constantValue := 0 }, { name := "admitted", type := .boolean, accessFlags := 2, slot := 6, constantValue := 0 }, { name := "decidedAt", type := .long, accessFlags := 2, slot := 7, constantValue := 0 }]
  methods := #[k4m0, k4m1, k4m2, k4m3, k4m4, k4m5, k4m6, k4m7, k4m8, k4m9]
  instanceTypes := #[.int, .long, .long, .long, .long, .long, .boolean, .long]
  staticTypes := #[.long]
  resolved := Array.replicate 114 none
  statics := none }

def pool5 : Array CpInfo := pool [(1, .class_ 2), (0, u "java/io/Serializable"), (0, .class_ 4), (0, u "java/lang/Object")] 2

/-- java/io/Serializable -/
def k5 : Class := { plain "java/io/Serializable" (some 0) with
  accessFlags := 1537
  interfaces := #[]
  cf := some (fileOf pool5 1 #[] #[] 1537 3 #[] #[])
  fields := #[]
  methods := #[]
  instanceTypes := #[]
  staticTypes := #[]
  resolved := Array.replicate 7 none
  statics := none }

def pool6 : Array CpInfo := pool [(2, .class_ 4), (1, u "java/lang/Object"), (0, u "<init>"), (0, u "()V"), (1, .class_ 10), (1, u "java/lang/Number"), (2, .class_ 14), (0, u "java/io/Serializable"), (0, u "serialVersionUID"), (0, u "J")] 20

def k6m0 : Method := { name := "<init>", desc := "()V", sig := { parameters := [], returnType := none }, accessFlags := 1, code := none }
/-- java/lang/Number -/
def k6 : Class := { plain "java/lang/Number" (some 0) with
  accessFlags := 1057
  interfaces := #[5]
  cf := some (fileOf pool6 8 #[] #[{ accessFlags := 1, nameIndex := 5, descriptorIndex := 6, attributes := #[] }] 1057 2 #[13] #[{ accessFlags := 26, nameIndex := 15, descriptorIndex := 16, attributes := #[] }])
  fields := #[{ name := "serialVersionUID", type := .long, accessFlags := 26, slot := 0, constantValue := 0 }]
  methods := #[k6m0]
  instanceTypes := #[]
  staticTypes := #[.long]
  resolved := Array.replicate 37 none
  statics := none }

def pool7 : Array CpInfo := pool [(1, .class_ 2), (0, u "java/lang/Comparable"), (0, .class_ 4), (0, u "java/lang/Object")] 7

/-- java/lang/Comparable -/
def k7 : Class := { plain "java/lang/Comparable" (some 0) with
  accessFlags := 1537
  interfaces := #[]
  cf := some (fileOf pool7 1 #[] #[] 1537 3 #[] #[])
  fields := #[]
  methods := #[]
  instanceTypes := #[]
  staticTypes := #[]
  resolved := Array.replicate 12 none
  statics := none }

def pool8 : Array CpInfo := pool [(1, .class_ 2), (0, u "java/lang/constant/Constable"), (0, .class_ 4), (0, u "java/lang/Object")] 6

/-- java/lang/constant/Constable -/
def k8 : Class := { plain "java/lang/constant/Constable" (some 0) with
  accessFlags := 1537
  interfaces := #[]
  cf := some (fileOf pool8 1 #[] #[] 1537 3 #[] #[])
  fields := #[]
  methods := #[]
  instanceTypes := #[]
  staticTypes := #[]
  resolved := Array.replicate 11 none
  statics := none }

def pool9 : Array CpInfo := pool [(1, .class_ 2), (0, u "java/lang/constant/ConstantDesc"), (0, .class_ 4), (0, u "java/lang/Object")] 32

/-- java/lang/constant/ConstantDesc -/
def k9 : Class := { plain "java/lang/constant/ConstantDesc" (some 0) with
  accessFlags := 1537
  interfaces := #[]
  cf := some (fileOf pool9 1 #[] #[] 1537 3 #[] #[])
  fields := #[]
  methods := #[]
  instanceTypes := #[]
  staticTypes := #[]
  resolved := Array.replicate 37 none
  statics := none }

def pool10 : Array CpInfo := pool [(1, .class_ 2), (0, u "java/lang/Long"), (165, .long 9223372036854775808), (66, .class_ 237), (1, u "java/lang/Long$LongCache"), (33, .class_ 272), (0, u "java/lang/Number"), (2, u "value"), (0, u "J"), (25, .methodref 1 303), (0, .nameAndType 304 305), (0, u "compare"), (0, u "(JJ)I"), (55, u "TYPE"), (0, u "Ljava/lang/Class;"), (0, .class_ 364), (0, u "java/lang/Comparable"), (0, .class_ 366), (0, u "java/lang/constant/Constable"), (0, .class_ 368), (0, u "java/lang/constant/ConstantDesc"), (0, u "MIN_VALUE"), (1, u "MAX_VALUE"), (4, u "SIZE"), (0, u "I"), (1, u "BYTES"), (1, u "serialVersionUID"), (87, u "compareUnsigned")] 54

def k10c0 : Code := { maxStack := 4, maxLocals := 4, code := jdk_35_method_42_code, exceptionTable := #[], attributes := #[] }
def k10m0 : Method := { name := "compare", desc := "(JJ)I", sig := { parameters := [.long, .long], returnType := some .int }, accessFlags := 9, code := some k10c0 }
def k10c1 : Code := { maxStack := 6, maxLocals := 4, code := jdk_35_method_43_code, exceptionTable := #[], attributes := #[] }
def k10m1 : Method := { name := "compareUnsigned", desc := "(JJ)I", sig := { parameters := [.long, .long], returnType := some .int }, accessFlags := 9, code := some k10c1 }
/-- java/lang/Long -/
def k10 : Class := { plain "java/lang/Long" (some 6) with
  accessFlags := 49
  interfaces := #[7, 8, 9]
  cf := some (fileOf pool10 1 #[.nestMembers #[235]] #[{ accessFlags := 9, nameIndex := 304, descriptorIndex := 305, attributes := #[] }, { accessFlags := 9, nameIndex := 469, descriptorIndex := 305, attributes := #[] }] 49 271 #[363, 365, 367] #[{ accessFlags := 25, nameIndex := 369, descriptorIndex := 276, attributes := #[] }, { accessFlags := 25, nameIndex := 371, descriptorIndex := 276, attributes := #[] }, { accessFlags := 25, nameIndex := 361, descriptorIndex := 362, attributes := #[] }, { accessFlags := 18, nameIndex := 275, descriptorIndex := 276, attributes := #[] }, { accessFlags := 25, nameIndex := 376, descriptorIndex := 377, attributes := #[] }, { accessFlags := 25, nameIndex := 379, descriptorIndex := 377, attributes := #[] }, { accessFlags := 26, nameIndex := 381, descriptorIndex := 276, attributes := #[] }])
  fields := #[{ name := "MIN_VALUE", type := .long, accessFlags := 25, slot := 0, constantValue := 0 }, { name := "MAX_VALUE", type := .long, accessFlags := 25, slot := 1, constantValue := 0 }, { name := "TYPE", type := (.object "java/lang/Class"), accessFlags := 25, slot := 2, constantValue := 0 }, { name := "value", type := .long, accessFlags := 18, slot := 0, constantValue := 0 }, { name := "SIZE", type := .int, accessFlags := 25, slot := 3, constantValue := 0 }, { name := "BYTES", type := .int, accessFlags := 25, slot := 4, constantValue := 0 }, { name := "serialVersionUID", type := .long, accessFlags := 26, slot := 5, constantValue := 0 }]
  methods := #[k10m0, k10m1]
  instanceTypes := #[.long]
  staticTypes := #[.long, .long, (.object "java/lang/Class"), .int, .int, .long]
  resolved := Array.replicate 524 none
  statics := none }

def pool11 : Array CpInfo := pool [(1, .methodref 2 3), (0, .class_ 4), (0, .nameAndType 5 6), (0, u "java/lang/Object"), (0, u "<init>"), (0, u "()V"), (0, .fieldref 8 9), (0, .class_ 10), (0, .nameAndType 11 12), (0, u "com/example/even_bucket/evenbucket/Decision"), (0, u "remaining"), (0, u "J"), (0, .fieldref 8 14), (0, .nameAndType 15 16), (0, u "retryAfter"), (0, u "Ljava/time/Duration;"), (0, .fieldref 8 18), (0, .nameAndType 19 20), (0, u "byFallback"), (0, u "Z"), (9, .fieldref 31 32), (0, .class_ 33), (0, .nameAndType 34 16), (0, u "java/time/Duration"), (0, u "ZERO"), (0, .methodref 8 36), (0, .nameAndType 5 37), (0, u "(JLjava/time/Duration;Z)V"), (0, .string 15), (0, .methodref 40 41), (0, .class_ 42), (0, .nameAndType 43 44), (0, u "com/example/even_bucket/evenbucket/Durations"), (0, u "requirePositiveWholeMillis"), (0, u "(Ljava/time/Duration;Ljava/lang/String;)Ljava/time/Duration;"), (38, u "allow"), (0, u "(J)Lcom/example/even_bucket/evenbucket/Decision;"), (1, u "refuse"), (0, u "(Ljava/time/Duration;)Lcom/example/even_bucket/evenbucket/Decision;")] 27

def k11c0 : Code := { maxStack := 3, maxLocals := 5, code := prog_19_method_1_code, exceptionTable := #[], attributes := #[] }
def k11m0 : Method := { name := "<init>", desc := "(JLjava/time/Duration;Z)V", sig := { parameters := [.long, (.object "java/time/Duration"), .boolean], returnType := none }, accessFlags := 2, code := some k11c0 }
def k11c1 : Code := { maxStack := 6, maxLocals := 2, code := prog_19_method_2_code, exceptionTable := #[], attributes := #[] }
def k11m1 : Method := { name := "allow", desc := "(J)Lcom/example/even_bucket/evenbucket/Decision;", sig := { parameters := [.long], returnType := some (.object "com/example/even_bucket/evenbucket/Decision") }, accessFlags := 9, code := some k11c1 }
def k11c2 : Code := { maxStack := 6, maxLocals := 1, code := prog_19_method_3_code, exceptionTable := #[], attributes := #[] }
def k11m2 : Method := { name := "refuse", desc := "(Ljava/time/Duration;)Lcom/example/even_bucket/evenbucket/Decision;", sig := { parameters := [(.object "java/time/Duration")], returnType := some (.object "com/example/even_bucket/evenbucket/Decision") }, accessFlags := 9, code := some k11c2 }
/-- com/example/even_bucket/evenbucket/Decision -/
def k11 : Class := { plain "com/example/even_bucket/evenbucket/Decision" (some 0) with
  accessFlags := 33
  interfaces := #[]
  cf := some (fileOf pool11 8 #[] #[{ accessFlags := 2, nameIndex := 5, descriptorIndex := 37, attributes := #[] }, { accessFlags := 9, nameIndex := 83, descriptorIndex := 84, attributes := #[] }, { accessFlags := 9, nameIndex := 86, descriptorIndex := 87, attributes := #[] }] 33 2 #[] #[{ accessFlags := 18, nameIndex := 11, descriptorIndex := 12, attributes := #[] }, { accessFlags := 18, nameIndex := 15, descriptorIndex := 16, attributes := #[] }, { accessFlags := 18, nameIndex := 19, descriptorIndex := 20, attributes := #[] }])
  fields := #[{ name := "remaining", type := .long, accessFlags := 18, slot := 0, constantValue := 0 }, { name := "retryAfter", type := (.object "java/time/Duration"), accessFlags := 18, slot := 1, constantValue := 0 }, { name := "byFallback", type := .boolean, accessFlags := 18, slot := 2, constantValue := 0 }]
  methods := #[k11m0, k11m1, k11m2]
  instanceTypes := #[.long, (.object "java/time/Duration"), .boolean]
  staticTypes := #[]
  resolved := Array.replicate 115 none
  statics := none }

def pool12 : Array CpInfo := pool [(1, .class_ 2), (0, u "java/time/temporal/TemporalAmount"), (0, .class_ 4), (0, u "java/lang/Object")] 11

/-- java/time/temporal/TemporalAmount -/
def k12 : Class := { plain "java/time/temporal/TemporalAmount" (some 0) with
  accessFlags := 1537
  interfaces := #[]
  cf := some (fileOf pool12 1 #[] #[] 1537 3 #[] #[])
  fields := #[]
  methods := #[]
  instanceTypes := #[]
  staticTypes := #[]
  resolved := Array.replicate 16 none
  statics := none }

def pool13 : Array CpInfo := pool [(10, .methodref 11 12), (0, .class_ 13), (0, .nameAndType 14 15), (0, u "java/time/Duration"), (0, u "create"), (0, u "(JI)Ljava/time/Duration;"), (12, .long 1000), (1, .integer 1000000), (3, u "ZERO"), (0, u "Ljava/time/Duration;"), (13, .class_ 51), (1, u "java/time/temporal/TemporalAmount"), (27, .class_ 81), (1, u "java/time/Duration$Lazy"), (35, u "seconds"), (21, u "<init>"), (7, .class_ 149), (1, u "java/lang/Long"), (7, .nameAndType 139 158), (0, u "()V"), (40, u "(J)Ljava/time/Duration;"), (15, .methodref 11 216), (0, .nameAndType 139 217), (0, u "(JI)V"), (0, .methodref 219 157), (0, .class_ 220), (0, u "java/lang/Object"), (0, .fieldref 11 222), (0, .nameAndType 117 223), (0, u "J"), (0, .fieldref 11 225), (0, .nameAndType 226 227), (0, u "nanos"), (0, u "I"), (11, .class_ 241), (1, u "java/time/Duration$DurationUnits"), (12, u "getNano"), (0, u "()I"), (13, .class_ 271), (1, u "java/time/Duration$1"), (91, u "BI_NANOS_PER_SECOND"), (0, u "Ljava/math/BigInteger;"), (51, .methodref 147 417), (0, .nameAndType 418 419), (0, u "compare"), (0, u "(JJ)I"), (60, u "compareTo"), (0, u "(Ljava/time/Duration;)I"), (3, .class_ 486), (0, u "java/lang/Comparable"), (0, .class_ 488), (0, u "java/io/Serializable"), (0, u "serialVersionUID"), (12, u "ofMillis")] 153

def k13c0 : Code := { maxStack := 4, maxLocals := 5, code := jdk_2316_method_6_code, exceptionTable := #[], attributes := #[] }
def k13m0 : Method := { name := "ofMillis", desc := "(J)Ljava/time/Duration;", sig := { parameters := [.long], returnType := some (.object "java/time/Duration") }, accessFlags := 9, code := some k13c0 }
def k13c1 : Code := { maxStack := 5, maxLocals := 3, code := jdk_2316_method_16_code, exceptionTable := #[], attributes := #[] }
def k13m1 : Method := { name := "create", desc := "(JI)Ljava/time/Duration;", sig := { parameters := [.long, .int], returnType := some (.object "java/time/Duration") }, accessFlags := 10, code := some k13c1 }
def k13c2 : Code := { maxStack := 3, maxLocals := 4, code := jdk_2316_method_17_code, exceptionTable := #[], attributes := #[] }
def k13m2 : Method := { name := "<init>", desc := "(JI)V", sig := { parameters := [.long, .int], returnType := none }, accessFlags := 2, code := some k13c2 }
def k13c3 : Code := { maxStack := 1, maxLocals := 1, code := jdk_2316_method_24_code, exceptionTable := #[], attributes := #[] }
def k13m3 : Method := { name := "getNano", desc := "()I", sig := { parameters := [], returnType := some .int }, accessFlags := 1, code := some k13c3 }
def k13c4 : Code := { maxStack := 4, maxLocals := 3, code := jdk_2316_method_66_code, exceptionTable := #[], attributes := #[] }
def k13m4 : Method := { name := "compareTo", desc := "(Ljava/time/Duration;)I", sig := { parameters := [(.object "java/time/Duration")], returnType := some .int }, accessFlags := 1, code := some k13c4 }
/-- java/time/Duration -/
def k13 : Class := { plain "java/time/Duration" (some 0) with
  accessFlags := 49
  interfaces := #[12, 7, 5]
  cf := some (fileOf pool13 11 #[.nestMembers #[269, 239, 79]] #[{ accessFlags := 9, nameIndex := 502, descriptorIndex := 199, attributes := #[] }, { accessFlags := 10, nameIndex := 14, descriptorIndex := 15, attributes := #[] }, { accessFlags := 2, nameIndex := 139, descriptorIndex := 217, attributes := #[] }, { accessFlags := 1, nameIndex := 254, descriptorIndex := 255, attributes := #[] }, { accessFlags := 1, nameIndex := 480, descriptorIndex := 481, attributes := #[] }] 49 219 #[49, 485, 487] #[{ accessFlags := 25, nameIndex := 34, descriptorIndex := 35, attributes := #[] }, { accessFlags := 26, nameIndex := 489, descriptorIndex := 223, attributes := #[] }, { accessFlags := 26, nameIndex := 363, descriptorIndex := 364, attributes := #[] }, { accessFlags := 18, nameIndex := 117, descriptorIndex := 223, attributes := #[] }, { accessFlags := 18, nameIndex := 226, descriptorIndex := 227, attributes := #[] }])
  fields := #[{ name := "ZERO", type := (.object "java/time/Duration"), accessFlags := 25, slot := 0, constantValue := 0 }, { name := "serialVersionUID", type := .long, accessFlags := 26, slot := 1, constantValue := 0 }, { name := "BI_NANOS_PER_SECOND", type := (.object "java/math/BigInteger"), accessFlags := 26, slot := 2, constantValue := 0 }, { name := "seconds", type := .long, accessFlags := 18, slot := 0, constantValue := 0 }, { name := "nanos", type := .int, accessFlags := 18, slot := 1, constantValue := 0 }]
  methods := #[k13m0, k13m1, k13m2, k13m3, k13m4]
  instanceTypes := #[.long, .int]
  staticTypes := #[(.object "java/time/Duration"), .long, (.object "java/math/BigInteger")]
  resolved := Array.replicate 656 none
  statics := some 0 }

def pool14 : Array CpInfo := pool [(1, .methodref 2 3), (0, .class_ 4), (0, .nameAndType 5 6), (0, u "java/lang/Object"), (0, u "<init>"), (0, u "()V"), (0, .class_ 8), (0, u "java/lang/Record")] 13

def k14c0 : Code := { maxStack := 1, maxLocals := 1, code := jdk_30_method_1_code, exceptionTable := #[], attributes := #[] }
def k14m0 : Method := { name := "<init>", desc := "()V", sig := { parameters := [], returnType := none }, accessFlags := 4, code := some k14c0 }
/-- java/lang/Record -/
def k14 : Class := { plain "java/lang/Record" (some 0) with
  accessFlags := 1057
  interfaces := #[]
  cf := some (fileOf pool14 7 #[] #[{ accessFlags := 4, nameIndex := 5, descriptorIndex := 6, attributes := #[] }] 1057 2 #[] #[])
  fields := #[]
  methods := #[k14m0]
  instanceTypes := #[]
  staticTypes := #[]
  resolved := Array.replicate 22 none
  statics := none }

def pool15 : Array CpInfo := pool [(1, .methodref 2 3), (0, .class_ 4), (0, .nameAndType 5 6), (0, u "java/lang/Record"), (0, u "<init>"), (0, u "()V"), (0, .fieldref 8 9), (0, .class_ 10), (0, .nameAndType 11 12), (0, u "com/example/even_bucket/evenbucket/Admissions$Moment"), (0, u "millis"), (0, u "J"), (0, .fieldref 8 14), (0, .nameAndType 15 16), (0, u "free"), (0, u "I"), (0, .fieldref 8 18), (0, .nameAndType 19 12), (0, u "newest"), (0, .fieldref 8 21), (0, .nameAndType 22 23), (0, u "refusal"), (0, u "Lcom/example/even_bucket/evenbucket/Decision;"), (38, u "(JIJLcom/example/even_bucket/evenbucket/Decision;)V"), (7, u "()I"), (1, u "()J"), (4, .class_ 78), (0, u "com/example/even_bucket/evenbucket/Admissions")] 22

def k15c0 : Code := { maxStack := 3, maxLocals := 7, code := prog_12_method_1_code, exceptionTable := #[], attributes := #[] }
def k15m0 : Method := { name := "<init>", desc := "(JIJLcom/example/even_bucket/evenbucket/Decision;)V", sig := { parameters := [.long, .int, .long, (.object "com/example/even_bucket/evenbucket/Decision")], returnType := none }, accessFlags := 1, code := some k15c0 }
def k15c1 : Code := { maxStack := 2, maxLocals := 1, code := prog_12_method_7_code, exceptionTable := #[], attributes := #[] }
def k15m1 : Method := { name := "millis", desc := "()J", sig := { parameters := [], returnType := some .long }, accessFlags := 1, code := some k15c1 }
def k15c2 : Code := { maxStack := 1, maxLocals := 1, code := prog_12_method_8_code, exceptionTable := #[], attributes := #[] }
def k15m2 : Method := { name := "free", desc := "()I", sig := { parameters := [], returnType := some .int }, accessFlags := 1, code := some k15c2 }
def k15c3 : Code := { maxStack := 2, maxLocals := 1, code := prog_12_method_9_code, exceptionTable := #[], attributes := #[] }
def k15m3 : Method := { name := "newest", desc := "()J", sig := { parameters := [], returnType := some .long }, accessFlags := 1, code := some k15c3 }
/-- com/example/even_bucket/evenbucket/Admissions$Moment -/
def k15 : Class := { plain "com/example/even_bucket/evenbucket/Admissions$Moment" (some 14) with
  accessFlags := 49
  interfaces := #[]
  cf := some (fileOf pool15 8 #[.nestHost 77] #[{ accessFlags := 1, nameIndex := 5, descriptorIndex := 62, attributes := #[] }, { accessFlags := 1, nameIndex := 11, descriptorIndex := 72, attributes := #[] }, { accessFlags := 1, nameIndex := 15, descriptorIndex := 70, attributes := #[] }, { accessFlags := 1, nameIndex := 19, descriptorIndex := 72, attributes := #[] }] 49 2 #[] #[{ accessFlags := 18, nameIndex := 11, descriptorIndex := 12, attributes := #[] }, { accessFlags := 18, nameIndex := 15, descriptorIndex := 16, attributes := #[] }, { accessFlags := 18, nameIndex := 19, descriptorIndex := 12, attributes := #[] }, { accessFlags := 18, nameIndex := 22, descriptorIndex := 23, attributes := #[] }])
  fields := #[{ name := "millis", type := .long, accessFlags := 18, slot := 0, constantValue := 0 }, { name := "free", type := .int, accessFlags := 18, slot := 1, constantValue := 0 }, { name := "newest", type := .long, accessFlags := 18, slot := 2, constantValue := 0 }, { name := "refusal", type := (.object "com/example/even_bucket/evenbucket/Decision"), accessFlags := 18, slot := 3, constantValue := 0 }]
  methods := #[k15m0, k15m1, k15m2, k15m3]
  instanceTypes := #[.long, .int, .long, (.object "com/example/even_bucket/evenbucket/Decision")]
  staticTypes := #[]
  resolved := Array.replicate 101 none
  statics := none }

def pool16 : Array CpInfo := pool [(2, .class_ 4), (1, u "java/lang/CharSequence"), (42, .class_ 48), (0, u "java/lang/CharSequence$1CodePointIterator"), (10, .class_ 60), (0, u "java/lang/CharSequence$1CharIterator"), (5, .class_ 67), (0, u "java/lang/Object")] 63

/-- java/lang/CharSequence -/
def k16 : Class := { plain "java/lang/CharSequence" (some 0) with
  accessFlags := 1537
  interfaces := #[]
  cf := some (fileOf pool16 2 #[.nestMembers #[47, 59]] #[] 1537 66 #[] #[])
  fields := #[]
  methods := #[]
  instanceTypes := #[]
  staticTypes := #[]
  resolved := Array.replicate 131 none
  statics := none }

def pool17 : Array CpInfo := pool [(2, .class_ 4), (1, u "java/lang/Object"), (0, u "<init>"), (0, u "()V"), (3, .class_ 12), (1, u "java/lang/String"), (0, u "value"), (0, u "[B"), (2, u "coder"), (0, u "B"), (2, u "hash"), (0, u "I"), (2, u "hashIsZero"), (0, u "Z"), (13, u "COMPACT_STRINGS"), (534, .class_ 576), (0, u "java/lang/CharSequence"), (22, u "CASE_INSENSITIVE_ORDER"), (0, u "Ljava/util/Comparator;"), (500, u "serialPersistentFields"), (0, u "[Ljava/io/ObjectStreamField;"), (0, .class_ 1104), (0, u "java/lang/String$CaseInsensitiveComparator"), (1, .class_ 1107), (0, u "java/io/Serializable"), (0, .class_ 1109), (0, u "java/lang/Comparable"), (0, .class_ 1111), (0, u "java/lang/constant/Constable"), (0, .class_ 1113), (0, u "java/lang/constant/ConstantDesc"), (2, u "serialVersionUID"), (0, u "J"), (3, u "REPL"), (0, u "C"), (2, u "LATIN1"), (1, u "UTF16")] 323

def k17m0 : Method := { name := "<init>", desc := "()V", sig := { parameters := [], returnType := none }, accessFlags := 1, code := none }
/-- java/lang/String -/
def k17 : Class := { plain "java/lang/String" (some 0) with
  accessFlags := 49
  interfaces := #[5, 7, 16, 8, 9]
  cf := some (fileOf pool17 10 #[.nestMembers #[1103]] #[{ accessFlags := 1, nameIndex := 5, descriptorIndex := 6, attributes := #[] }] 49 2 #[1106, 1108, 575, 1110, 1112] #[{ accessFlags := 18, nameIndex := 13, descriptorIndex := 14, attributes := #[] }, { accessFlags := 18, nameIndex := 17, descriptorIndex := 18, attributes := #[] }, { accessFlags := 2, nameIndex := 21, descriptorIndex := 22, attributes := #[] }, { accessFlags := 2, nameIndex := 25, descriptorIndex := 26, attributes := #[] }, { accessFlags := 26, nameIndex := 1116, descriptorIndex := 1117, attributes := #[] }, { accessFlags := 24, nameIndex := 40, descriptorIndex := 26, attributes := #[] }, { accessFlags := 26, nameIndex := 1101, descriptorIndex := 1102, attributes := #[] }, { accessFlags := 26, nameIndex := 1121, descriptorIndex := 1122, attributes := #[] }, { accessFlags := 25, nameIndex := 599, descriptorIndex := 600, attributes := #[] }, { accessFlags := 24, nameIndex := 1125, descriptorIndex := 18, attributes := #[] }, { accessFlags := 24, nameIndex := 1127, descriptorIndex := 18, attributes := #[] }])
  fields := #[{ name := "value", type := (.array .byte), accessFlags := 18, slot := 0, constantValue := 0 }, { name := "coder", type := .byte, accessFlags := 18, slot := 1, constantValue := 0 }, { name := "hash", type := .int, accessFlags := 2, slot := 2, constantValue := 0 }, { name := "hashIsZero", type := .boolean, accessFlags := 2, slot := 3, constantValue := 0 }, { name := "serialVersionUID", type := .long, accessFlags := 26, slot := 0, constantValue := 0 }, { name := "COMPACT_STRINGS", type := .boolean, accessFlags := 24, slot := 1, constantValue := 0 }, { name := "serialPersistentFields", type := (.array (.object "java/io/ObjectStreamField")), accessFlags := 26, slot := 2, constantValue := 0 }, { name := "REPL", type := .char, accessFlags := 26, slot := 3, constantValue := 0 }, { name := "CASE_INSENSITIVE_ORDER", type := (.object "java/util/Comparator"), accessFlags := 25, slot := 4, constantValue := 0 }, { name := "LATIN1", type := .byte, accessFlags := 24, slot := 5, constantValue := 0 }, { name := "UTF16", type := .byte, accessFlags := 24, slot := 6, constantValue := 0 }]
  methods := #[k17m0]
  instanceTypes := #[(.array .byte), .byte, .int, .boolean]
  staticTypes := #[.long, .boolean, (.array (.object "java/io/ObjectStreamField")), .char, (.object "java/util/Comparator"), .byte, .byte]
  resolved := Array.replicate 1451 none
  statics := none }

def pool18 : Array CpInfo := pool [(2, .class_ 4), (1, u "java/lang/Object"), (0, u "<init>"), (0, u "()V"), (0, .methodref 8 9), (0, .class_ 10), (0, .nameAndType 11 12), (0, u "java/util/Objects"), (0, u "requireNonNull"), (0, u "(Ljava/lang/Object;Ljava/lang/String;)Ljava/lang/Object;"), (0, .methodref 14 15), (0, .class_ 16), (0, .nameAndType 17 18), (0, u "java/time/Duration"), (0, u "ofMillis"), (0, u "(J)Ljava/time/Duration;"), (0, .methodref 14 20), (0, .nameAndType 21 22), (0, u "compareTo"), (0, u "(Ljava/time/Duration;)I"), (0, .methodref 14 24), (0, .nameAndType 25 26), (0, u "getNano"), (0, u "()I"), (0, .class_ 28), (0, u "com/example/even_bucket/evenbucket/Durations"), (0, .long 1000000), (16, u "NANOS_PER_MILLI"), (0, u "J"), (3, u "requirePositiveWholeMillis"), (0, u "(Ljava/time/Duration;Ljava/lang/String;)Ljava/time/Duration;")] 18

def k18m0 : Method := { name := "<init>", desc := "()V", sig := { parameters := [], returnType := none }, accessFlags := 2, code := none }
def k18c1 : Code := { maxStack := 4, maxLocals := 2, code := prog_20_method_2_code, exceptionTable := #[], attributes := #[] }
def k18m1 : Method := { name := "requirePositiveWholeMillis", desc := "(Ljava/time/Duration;Ljava/lang/String;)Ljava/time/Duration;", sig := { parameters := [(.object "java/time/Duration"), (.object "java/lang/String")], returnType := some (.object "java/time/Duration") }, accessFlags := 8, code := some k18c1 }
/-- com/example/even_bucket/evenbucket/Durations -/
def k18 : Class := { plain "com/example/even_bucket/evenbucket/Durations" (some 0) with
  accessFlags := 32
  interfaces := #[]
  cf := some (fileOf pool18 27 #[] #[{ accessFlags := 2, nameIndex := 5, descriptorIndex := 6, attributes := #[] }, { accessFlags := 8, nameIndex := 51, descriptorIndex := 52, attributes := #[] }] 32 2 #[] #[{ accessFlags := 26, nameIndex := 46, descriptorIndex := 47, attributes := #[] }])
  fields := #[{ name := "NANOS_PER_MILLI", type := .long, accessFlags := 26, slot := 0, constantValue := 0 }]
  methods := #[k18m0, k18m1]
  instanceTypes := #[]
  staticTypes := #[.long]
  resolved := Array.replicate 71 none
  statics := none }

def pool19 : Array CpInfo := pool [(2, .class_ 4), (1, u "java/lang/Object"), (0, u "<init>"), (0, u "()V"), (35, .class_ 44), (1, u "java/util/Objects"), (0, u "requireNonNull"), (48, u "(Ljava/lang/Object;Ljava/lang/String;)Ljava/lang/Object;")] 89

def k19m0 : Method := { name := "<init>", desc := "()V", sig := { parameters := [], returnType := none }, accessFlags := 2, code := none }
def k19c1 : Code := { maxStack := 3, maxLocals := 2, code := jdk_31_method_11_code, exceptionTable := #[], attributes := #[] }
def k19m1 : Method := { name := "requireNonNull", desc := "(Ljava/lang/Object;Ljava/lang/String;)Ljava/lang/Object;", sig := { parameters := [(.object "java/lang/Object"), (.object "java/lang/String")], returnType := some (.object "java/lang/Object") }, accessFlags := 9, code := some k19c1 }
/-- java/util/Objects -/
def k19 : Class := { plain "java/util/Objects" (some 0) with
  accessFlags := 49
  interfaces := #[]
  cf := some (fileOf pool19 42 #[] #[{ accessFlags := 2, nameIndex := 5, descriptorIndex := 6, attributes := #[] }, { accessFlags := 9, nameIndex := 45, descriptorIndex := 94, attributes := #[] }] 49 2 #[] #[])
  fields := #[]
  methods := #[k19m0, k19m1]
  instanceTypes := #[]
  staticTypes := #[]
  resolved := Array.replicate 184 none
  statics := none }

def pool20 : Array CpInfo := pool [(1, u "java/lang/Cloneable"), (0, .class_ 1), (0, u "java/lang/Object"), (0, .class_ 3)] 3

/-- java/lang/Cloneable -/
def k20 : Class := { plain "java/lang/Cloneable" (some 0) with
  accessFlags := 1537
  interfaces := #[]
  cf := some (fileOf pool20 2 #[] #[] 1537 4 #[] #[])
  fields := #[]
  methods := #[]
  instanceTypes := #[]
  staticTypes := #[]
  resolved := Array.replicate 8 none
  statics := none }

/-- the primitive byte -/
def k21 : Class := { plain "byte" none with kind := .primitive 'B', accessFlags := 0x411 }
/-- [B -/
def k22 : Class := { plain "[B" (some 0) with kind := .array 21 .byte, interfaces := #[20, 5], accessFlags := 1041 }

/-- the primitive int -/
def k23 : Class := { plain "int" none with kind := .primitive 'I', accessFlags := 0x411 }
/-- [I -/
def k24 : Class := { plain "[I" (some 0) with kind := .array 23 .int, interfaces := #[20, 5], accessFlags := 1041 }

def heap : Heap := #[{ cls := 13, slots := #[.ref 1, .long 0, .null], vm := .statics 13 },
  { cls := 13, slots := #[.long 0, .int 0], vm := .none }]
def classes : Array Class := #[k0, k1, k2, k3, k4, k5, k6, k7, k8, k9, k10, k11, k12, k13, k14, k15, k16, k17, k18, k19, k20, k21, k22, k23, k24]
def interned : List (Array UInt16 × Addr) := []
def slotsUsed : Nat := 5
def theMethod : MethodId := ⟨1, 1⟩
def args0 : Array Value := #[.int 77, .long 99, .long 3, .long 5, .int 4, .int 9]
def aboutOver (below : List Frame) : State where
  vm := { classes := classes, interned := interned.toArray }
  heap := heap
  slotsUsed := slotsUsed
  threads := #[{ frames := .invoking theMethod args0 :: below }]
def below0 : List Frame := [.native { method := ⟨0, 0⟩, args := #[] }]
def about1 : State := aboutOver below0
def p0 : Program := .bare "" "" ""
def e0 : Env := launch0.env 0 0 0
theorem w_frames : about1.frames = Frame.invoking theMethod args0 :: below0 := rfl
set_option maxRecDepth 65536 in
theorem w_args : argsFit about1.vm theMethod args0 = true := by decide +kernel
set_option maxRecDepth 65536 in
theorem w_heap : heapFits about1 = true := by decide +kernel
set_option maxRecDepth 65536 in
theorem w_runnable : about1.curStatus? = some .runnable := by decide +kernel
set_option maxRecDepth 65536 in
theorem w_alone : about1.alone = true := by decide +kernel
set_option maxRecDepth 65536 in
theorem w_named : about1.methodNamed? x = some theMethod := by decide +kernel
set_option maxRecDepth 65536 in
theorem w_hears : about1.hears theMethod below0 = true := by decide +kernel
set_option maxRecDepth 65536 in
theorem w_ripe : about1.ripe theMethod args0 below0 = true := by decide +kernel
theorem w_running : about1.status = .running := rfl
set_option maxRecDepth 65536 in
theorem w_room : about1.hasRoom e0.platform room_1 = true :=
  launch0.hasRoom_least _ room_1 (by decide +kernel) (by decide +kernel) (by decide +kernel) (by decide +kernel) (by decide +kernel) (by decide +kernel)
theorem allAtoms_all (ts : List Jvm.Cond) (a : Array Jvm.Value) (st : Jvm.State) : (allAtoms ts).before a st = ts.all (fun c => c.before a st) := by
  induction ts with
  | nil => rfl
  | cons c t ih =>
    show (Jvm.Cond.and c (allAtoms t)).before a st = _
    rw [Jvm.Cond.before_and, ih, List.all_cons]
def words1 : List Jvm.Cond := Jvm.Cond.code x code maxLocals ret :: tables_1
/-- a 'code' word, met by the world's own term for the bytes: nothing is compared byte by byte -/
theorem code_word {y : MethodName} {bytes : ByteArray} {mx : Nat} {rt : Option FieldType} {a : Array Value} {s : State} {m : MethodId} {meth : Method} {c : Code} (h1 : s.methodNamed? y = some m) (h2 : s.vm.method? m = some meth) (h3 : meth.code = some c) (h4 : c.code = bytes)
    (h5 : (c.maxLocals == mx && c.exceptionTable.isEmpty && decide (c.maxStack ≤ mostOperands) && decide (meth.sig.returnType = rt) && !meth.locks && decide (parseMethodDescriptor y.desc = some meth.sig)) = true) : (Jvm.Cond.code y bytes mx rt).before a s = true := by
  simp only [Bool.and_eq_true, beq_iff_eq, Bool.not_eq_true', decide_eq_true_eq] at h5
  obtain ⟨⟨⟨⟨⟨g1, g2⟩, g3⟩, g4⟩, g5⟩, g6⟩ := h5
  simp [Cond.before, Cond.holds, Cond.value, h1, h2, h3, h4, g1, g2, g3, g4, g5, g6]
def isCode : Jvm.Cond → Bool
  | .code _ _ _ _ => true
  | _ => false
theorem all_split {L : List Jvm.Cond} {P : Jvm.Cond → Bool} (h1 : L.all (fun c => isCode c || P c) = true) (h2 : ∀ c ∈ L.filter isCode, P c = true) : L.all P = true := by
  refine List.all_eq_true.mpr fun c hc => ?_
  have h := List.all_eq_true.mp h1 c hc
  rcases Bool.eq_false_or_eq_true (isCode c) with hi | hi
  · exact h2 c (List.mem_filter.mpr ⟨hc, hi⟩)
  · simpa [hi] using h
set_option maxRecDepth 65536 in
theorem w_c0 : (Jvm.Cond.code x code maxLocals ret).before args0 about1 = true := code_word (m := ⟨1, 1⟩) (meth := k1m1) (c := k1c1) (by decide +kernel) rfl rfl rfl (by decide +kernel)
set_option maxRecDepth 65536 in
theorem w_c1 : (Jvm.Cond.code ({ cls := "java/lang/Math", name := "max", desc := "(II)I" } : Jvm.MethodName) jdk_29_method_65_code (2 : Nat) (Option.some Jvm.ClassFile.FieldType.int)).before args0 about1 = true := code_word (m := ⟨2, 1⟩) (meth := k2m1) (c := k2c1) (by decide +kernel) rfl rfl rfl (by decide +kernel)
set_option maxRecDepth 65536 in
theorem w_c2 : (Jvm.Cond.code ({ cls := "com/example/even_bucket/evenbucket/GreedyBucket", name := "<init>", desc := "(IJJ)V" } : Jvm.MethodName) prog_26_method_1_code (6 : Nat) (Option.none : Option Jvm.ClassFile.FieldType)).before args0 about1 = true := code_word (m := ⟨4, 0⟩) (meth := k4m0) (c := k4c0) (by decide +kernel) rfl rfl rfl (by decide +kernel)
set_option maxRecDepth 65536 in
theorem w_c3 : (Jvm.Cond.code ({ cls := "java/lang/Object", name := "<init>", desc := "()V" } : Jvm.MethodName) object_method_1_code (1 : Nat) (Option.none : Option Jvm.ClassFile.FieldType)).before args0 about1 = true := code_word (m := ⟨0, 0⟩) (meth := k0m0) (c := k0c0) (by decide +kernel) rfl rfl rfl (by decide +kernel)
set_option maxRecDepth 65536 in
theorem w_c4 : (Jvm.Cond.code ({ cls := "com/example/even_bucket/evenbucket/GreedyBucket", name := "tryAcquire", desc := "(J)Lcom/example/even_bucket/evenbucket/Decision;" } : Jvm.MethodName) prog_26_method_4_code (7 : Nat) (Option.some (Jvm.ClassFile.FieldType.object "com/example/even_bucket/evenbucket/Decision"))).before args0 about1 = true := code_word (m := ⟨4, 1⟩) (meth := k4m1) (c := k4c1) (by decide +kernel) rfl rfl rfl (by decide +kernel)
set_option maxRecDepth 65536 in
theorem w_c5 : (Jvm.Cond.code ({ cls := "com/example/even_bucket/evenbucket/GreedyBucket", name := "deficitAt", desc := "(J)J" } : Jvm.MethodName) prog_26_method_10_code (7 : Nat) (Option.some Jvm.ClassFile.FieldType.long)).before args0 about1 = true := code_word (m := ⟨4, 6⟩) (meth := k4m6) (c := k4c6) (by decide +kernel) rfl rfl rfl (by decide +kernel)
set_option maxRecDepth 65536 in
theorem w_c6 : (Jvm.Cond.code ({ cls := "com/example/even_bucket/evenbucket/GreedyBucket", name := "divideRoundingUp", desc := "(JJ)J" } : Jvm.MethodName) prog_26_method_13_code (4 : Nat) (Option.some Jvm.ClassFile.FieldType.long)).before args0 about1 = true := code_word (m := ⟨4, 9⟩) (meth := k4m9) (c := k4c9) (by decide +kernel) rfl rfl rfl (by decide +kernel)
set_option maxRecDepth 65536 in
theorem w_c7 : (Jvm.Cond.code ({ cls := "java/lang/Long", name := "compareUnsigned", desc := "(JJ)I" } : Jvm.MethodName) jdk_35_method_43_code (4 : Nat) (Option.some Jvm.ClassFile.FieldType.int)).before args0 about1 = true := code_word (m := ⟨10, 1⟩) (meth := k10m1) (c := k10c1) (by decide +kernel) rfl rfl rfl (by decide +kernel)
set_option maxRecDepth 65536 in
theorem w_c8 : (Jvm.Cond.code ({ cls := "java/lang/Long", name := "compare", desc := "(JJ)I" } : Jvm.MethodName) jdk_35_method_42_code (4 : Nat) (Option.some Jvm.ClassFile.FieldType.int)).before args0 about1 = true := code_word (m := ⟨10, 0⟩) (meth := k10m0) (c := k10c0) (by decide +kernel) rfl rfl rfl (by decide +kernel)
set_option maxRecDepth 65536 in
theorem w_c9 : (Jvm.Cond.code ({ cls := "com/example/even_bucket/evenbucket/GreedyBucket", name := "freeWith", desc := "(J)I" } : Jvm.MethodName) prog_26_method_11_code (3 : Nat) (Option.some Jvm.ClassFile.FieldType.int)).before args0 about1 = true := code_word (m := ⟨4, 7⟩) (meth := k4m7) (c := k4c7) (by decide +kernel) rfl rfl rfl (by decide +kernel)
set_option maxRecDepth 65536 in
theorem w_c10 : (Jvm.Cond.code ({ cls := "com/example/even_bucket/evenbucket/Decision", name := "allow", desc := "(J)Lcom/example/even_bucket/evenbucket/Decision;" } : Jvm.MethodName) prog_19_method_2_code (2 : Nat) (Option.some (Jvm.ClassFile.FieldType.object "com/example/even_bucket/evenbucket/Decision"))).before args0 about1 = true := code_word (m := ⟨11, 1⟩) (meth := k11m1) (c := k11c1) (by decide +kernel) rfl rfl rfl (by decide +kernel)
set_option maxRecDepth 65536 in
theorem w_c11 : (Jvm.Cond.code ({ cls := "com/example/even_bucket/evenbucket/Decision", name := "<init>", desc := "(JLjava/time/Duration;Z)V" } : Jvm.MethodName) prog_19_method_1_code (5 : Nat) (Option.none : Option Jvm.ClassFile.FieldType)).before args0 about1 = true := code_word (m := ⟨11, 0⟩) (meth := k11m0) (c := k11c0) (by decide +kernel) rfl rfl rfl (by decide +kernel)
set_option maxRecDepth 65536 in
theorem w_c12 : (Jvm.Cond.code ({ cls := "com/example/even_bucket/evenbucket/GreedyBucket", name := "recordAtLatestDecision", desc := "(I)V" } : Jvm.MethodName) prog_26_method_7_code (2 : Nat) (Option.none : Option Jvm.ClassFile.FieldType)).before args0 about1 = true := code_word (m := ⟨4, 3⟩) (meth := k4m3) (c := k4c3) (by decide +kernel) rfl rfl rfl (by decide +kernel)
set_option maxRecDepth 65536 in
theorem w_c13 : (Jvm.Cond.code ({ cls := "com/example/even_bucket/evenbucket/GreedyBucket", name := "moment", desc := "()Lcom/example/even_bucket/evenbucket/Admissions$Moment;" } : Jvm.MethodName) prog_26_method_6_code (4 : Nat) (Option.some (Jvm.ClassFile.FieldType.object "com/example/even_bucket/evenbucket/Admissions$Moment"))).before args0 about1 = true := code_word (m := ⟨4, 2⟩) (meth := k4m2) (c := k4c2) (by decide +kernel) rfl rfl rfl (by decide +kernel)
set_option maxRecDepth 65536 in
theorem w_c14 : (Jvm.Cond.code ({ cls := "com/example/even_bucket/evenbucket/GreedyBucket", name := "refusal", desc := "(J)Lcom/example/even_bucket/evenbucket/Decision;" } : Jvm.MethodName) prog_26_method_12_code (5 : Nat) (Option.some (Jvm.ClassFile.FieldType.object "com/example/even_bucket/evenbucket/Decision"))).before args0 about1 = true := code_word (m := ⟨4, 8⟩) (meth := k4m8) (c := k4c8) (by decide +kernel) rfl rfl rfl (by decide +kernel)
set_option maxRecDepth 65536 in
theorem w_c15 : (Jvm.Cond.code ({ cls := "com/example/even_bucket/evenbucket/GreedyBucket", name := "untilAPermit", desc := "(JJ)J" } : Jvm.MethodName) prog_26_method_9_code (4 : Nat) (Option.some Jvm.ClassFile.FieldType.long)).before args0 about1 = true := code_word (m := ⟨4, 5⟩) (meth := k4m5) (c := k4c5) (by decide +kernel) rfl rfl rfl (by decide +kernel)
set_option maxRecDepth 65536 in
theorem w_c16 : (Jvm.Cond.code ({ cls := "java/time/Duration", name := "ofMillis", desc := "(J)Ljava/time/Duration;" } : Jvm.MethodName) jdk_2316_method_6_code (5 : Nat) (Option.some (Jvm.ClassFile.FieldType.object "java/time/Duration"))).before args0 about1 = true := code_word (m := ⟨13, 0⟩) (meth := k13m0) (c := k13c0) (by decide +kernel) rfl rfl rfl (by decide +kernel)
set_option maxRecDepth 65536 in
theorem w_c17 : (Jvm.Cond.code ({ cls := "java/time/Duration", name := "create", desc := "(JI)Ljava/time/Duration;" } : Jvm.MethodName) jdk_2316_method_16_code (3 : Nat) (Option.some (Jvm.ClassFile.FieldType.object "java/time/Duration"))).before args0 about1 = true := code_word (m := ⟨13, 1⟩) (meth := k13m1) (c := k13c1) (by decide +kernel) rfl rfl rfl (by decide +kernel)
set_option maxRecDepth 65536 in
theorem w_c18 : (Jvm.Cond.code ({ cls := "java/time/Duration", name := "<init>", desc := "(JI)V" } : Jvm.MethodName) jdk_2316_method_17_code (4 : Nat) (Option.none : Option Jvm.ClassFile.FieldType)).before args0 about1 = true := code_word (m := ⟨13, 2⟩) (meth := k13m2) (c := k13c2) (by decide +kernel) rfl rfl rfl (by decide +kernel)
set_option maxRecDepth 65536 in
theorem w_c19 : (Jvm.Cond.code ({ cls := "com/example/even_bucket/evenbucket/Decision", name := "refuse", desc := "(Ljava/time/Duration;)Lcom/example/even_bucket/evenbucket/Decision;" } : Jvm.MethodName) prog_19_method_3_code (1 : Nat) (Option.some (Jvm.ClassFile.FieldType.object "com/example/even_bucket/evenbucket/Decision"))).before args0 about1 = true := code_word (m := ⟨11, 2⟩) (meth := k11m2) (c := k11c2) (by decide +kernel) rfl rfl rfl (by decide +kernel)
set_option maxRecDepth 65536 in
theorem w_c20 : (Jvm.Cond.code ({ cls := "com/example/even_bucket/evenbucket/Durations", name := "requirePositiveWholeMillis", desc := "(Ljava/time/Duration;Ljava/lang/String;)Ljava/time/Duration;" } : Jvm.MethodName) prog_20_method_2_code (2 : Nat) (Option.some (Jvm.ClassFile.FieldType.object "java/time/Duration"))).before args0 about1 = true := code_word (m := ⟨18, 1⟩) (meth := k18m1) (c := k18c1) (by decide +kernel) rfl rfl rfl (by decide +kernel)
set_option maxRecDepth 65536 in
theorem w_c21 : (Jvm.Cond.code ({ cls := "java/util/Objects", name := "requireNonNull", desc := "(Ljava/lang/Object;Ljava/lang/String;)Ljava/lang/Object;" } : Jvm.MethodName) jdk_31_method_11_code (2 : Nat) (Option.some (Jvm.ClassFile.FieldType.object "java/lang/Object"))).before args0 about1 = true := code_word (m := ⟨19, 1⟩) (meth := k19m1) (c := k19c1) (by decide +kernel) rfl rfl rfl (by decide +kernel)
set_option maxRecDepth 65536 in
theorem w_c22 : (Jvm.Cond.code ({ cls := "java/time/Duration", name := "compareTo", desc := "(Ljava/time/Duration;)I" } : Jvm.MethodName) jdk_2316_method_66_code (3 : Nat) (Option.some Jvm.ClassFile.FieldType.int)).before args0 about1 = true := code_word (m := ⟨13, 4⟩) (meth := k13m4) (c := k13c4) (by decide +kernel) rfl rfl rfl (by decide +kernel)
set_option maxRecDepth 65536 in
theorem w_c23 : (Jvm.Cond.code ({ cls := "java/time/Duration", name := "getNano", desc := "()I" } : Jvm.MethodName) jdk_2316_method_24_code (1 : Nat) (Option.some Jvm.ClassFile.FieldType.int)).before args0 about1 = true := code_word (m := ⟨13, 3⟩) (meth := k13m3) (c := k13c3) (by decide +kernel) rfl rfl rfl (by decide +kernel)
set_option maxRecDepth 65536 in
theorem w_c24 : (Jvm.Cond.code ({ cls := "com/example/even_bucket/evenbucket/Admissions$Moment", name := "<init>", desc := "(JIJLcom/example/even_bucket/evenbucket/Decision;)V" } : Jvm.MethodName) prog_12_method_1_code (7 : Nat) (Option.none : Option Jvm.ClassFile.FieldType)).before args0 about1 = true := code_word (m := ⟨15, 0⟩) (meth := k15m0) (c := k15c0) (by decide +kernel) rfl rfl rfl (by decide +kernel)
set_option maxRecDepth 65536 in
theorem w_c25 : (Jvm.Cond.code ({ cls := "java/lang/Record", name := "<init>", desc := "()V" } : Jvm.MethodName) jdk_30_method_1_code (1 : Nat) (Option.none : Option Jvm.ClassFile.FieldType)).before args0 about1 = true := code_word (m := ⟨14, 0⟩) (meth := k14m0) (c := k14c0) (by decide +kernel) rfl rfl rfl (by decide +kernel)
set_option maxRecDepth 65536 in
theorem w_c26 : (Jvm.Cond.code ({ cls := "com/example/even_bucket/evenbucket/GreedyBucket", name := "idleAfter", desc := "()J" } : Jvm.MethodName) prog_26_method_8_code (1 : Nat) (Option.some Jvm.ClassFile.FieldType.long)).before args0 about1 = true := code_word (m := ⟨4, 4⟩) (meth := k4m4) (c := k4c4) (by decide +kernel) rfl rfl rfl (by decide +kernel)
set_option maxRecDepth 65536 in
theorem w_c27 : (Jvm.Cond.code ({ cls := "com/example/even_bucket/evenbucket/Admissions", name := "later", desc := "(JJ)J" } : Jvm.MethodName) prog_11_method_6_code (4 : Nat) (Option.some Jvm.ClassFile.FieldType.long)).before args0 about1 = true := code_word (m := ⟨3, 0⟩) (meth := k3m0) (c := k3c0) (by decide +kernel) rfl rfl rfl (by decide +kernel)
set_option maxRecDepth 65536 in
theorem w_c28 : (Jvm.Cond.code ({ cls := "com/example/even_bucket/evenbucket/Admissions$Moment", name := "free", desc := "()I" } : Jvm.MethodName) prog_12_method_8_code (1 : Nat) (Option.some Jvm.ClassFile.FieldType.int)).before args0 about1 = true := code_word (m := ⟨15, 2⟩) (meth := k15m2) (c := k15c2) (by decide +kernel) rfl rfl rfl (by decide +kernel)
set_option maxRecDepth 65536 in
theorem w_c29 : (Jvm.Cond.code ({ cls := "com/example/even_bucket/evenbucket/Admissions$Moment", name := "millis", desc := "()J" } : Jvm.MethodName) prog_12_method_7_code (1 : Nat) (Option.some Jvm.ClassFile.FieldType.long)).before args0 about1 = true := code_word (m := ⟨15, 1⟩) (meth := k15m1) (c := k15c1) (by decide +kernel) rfl rfl rfl (by decide +kernel)
set_option maxRecDepth 65536 in
theorem w_c30 : (Jvm.Cond.code ({ cls := "com/example/even_bucket/evenbucket/Admissions$Moment", name := "newest", desc := "()J" } : Jvm.MethodName) prog_12_method_9_code (1 : Nat) (Option.some Jvm.ClassFile.FieldType.long)).before args0 about1 = true := code_word (m := ⟨15, 3⟩) (meth := k15m3) (c := k15c3) (by decide +kernel) rfl rfl rfl (by decide +kernel)
def codes1 : List Jvm.Cond := [Jvm.Cond.code x code maxLocals ret, Jvm.Cond.code ({ cls := "java/lang/Math", name := "max", desc := "(II)I" } : Jvm.MethodName) jdk_29_method_65_code (2 : Nat) (Option.some Jvm.ClassFile.FieldType.int), Jvm.Cond.code ({ cls := "com/example/even_bucket/evenbucket/GreedyBucket", name := "<init>", desc := "(IJJ)V" } : Jvm.MethodName) prog_26_method_1_code (6 : Nat) (Option.none : Option Jvm.ClassFile.FieldType), Jvm.Cond.code ({ cls := "java/lang/Object", name := "<init>", desc := "()V" } : Jvm.MethodName) object_method_1_code (1 : Nat) (Option.none : Option Jvm.ClassFile.FieldType), Jvm.Cond.code ({ cls := "com/example/even_bucket/evenbucket/GreedyBucket", name := "tryAcquire", desc := "(J)Lcom/example/even_bucket/evenbucket/Decision;" } : Jvm.MethodName) prog_26_method_4_code (7 : Nat) (Option.some (Jvm.ClassFile.FieldType.object "com/example/even_bucket/evenbucket/Decision")), Jvm.Cond.code ({ cls := "com/example/even_bucket/evenbucket/GreedyBucket", name := "deficitAt", desc := "(J)J" } : Jvm.MethodName) prog_26_method_10_code (7 : Nat) (Option.some Jvm.ClassFile.FieldType.long), Jvm.Cond.code ({ cls := "com/example/even_bucket/evenbucket/GreedyBucket", name := "divideRoundingUp", desc := "(JJ)J" } : Jvm.MethodName) prog_26_method_13_code (4 : Nat) (Option.some Jvm.ClassFile.FieldType.long), Jvm.Cond.code ({ cls := "java/lang/Long", name := "compareUnsigned", desc := "(JJ)I" } : Jvm.MethodName) jdk_35_method_43_code (4 : Nat) (Option.some Jvm.ClassFile.FieldType.int), Jvm.Cond.code ({ cls := "java/lang/Long", name := "compare", desc := "(JJ)I" } : Jvm.MethodName) jdk_35_method_42_code (4 : Nat) (Option.some Jvm.ClassFile.FieldType.int), Jvm.Cond.code ({ cls := "com/example/even_bucket/evenbucket/GreedyBucket", name := "freeWith", desc := "(J)I" } : Jvm.MethodName) prog_26_method_11_code (3 : Nat) (Option.some Jvm.ClassFile.FieldType.int), Jvm.Cond.code ({ cls := "com/example/even_bucket/evenbucket/Decision", name := "allow", desc := "(J)Lcom/example/even_bucket/evenbucket/Decision;" } : Jvm.MethodName) prog_19_method_2_code (2 : Nat) (Option.some (Jvm.ClassFile.FieldType.object "com/example/even_bucket/evenbucket/Decision")), Jvm.Cond.code ({ cls := "com/example/even_bucket/evenbucket/Decision", name := "<init>", desc := "(JLjava/time/Duration;Z)V" } : Jvm.MethodName) prog_19_method_1_code (5 : Nat) (Option.none : Option Jvm.ClassFile.FieldType), Jvm.Cond.code ({ cls := "com/example/even_bucket/evenbucket/GreedyBucket", name := "recordAtLatestDecision", desc := "(I)V" } : Jvm.MethodName) prog_26_method_7_code (2 : Nat) (Option.none : Option Jvm.ClassFile.FieldType), Jvm.Cond.code ({ cls := "com/example/even_bucket/evenbucket/GreedyBucket", name := "moment", desc := "()Lcom/example/even_bucket/evenbucket/Admissions$Moment;" } : Jvm.MethodName) prog_26_method_6_code (4 : Nat) (Option.some (Jvm.ClassFile.FieldType.object "com/example/even_bucket/evenbucket/Admissions$Moment")), Jvm.Cond.code ({ cls := "com/example/even_bucket/evenbucket/GreedyBucket", name := "refusal", desc := "(J)Lcom/example/even_bucket/evenbucket/Decision;" } : Jvm.MethodName) prog_26_method_12_code (5 : Nat) (Option.some (Jvm.ClassFile.FieldType.object "com/example/even_bucket/evenbucket/Decision")), Jvm.Cond.code ({ cls := "com/example/even_bucket/evenbucket/GreedyBucket", name := "untilAPermit", desc := "(JJ)J" } : Jvm.MethodName) prog_26_method_9_code (4 : Nat) (Option.some Jvm.ClassFile.FieldType.long), Jvm.Cond.code ({ cls := "java/time/Duration", name := "ofMillis", desc := "(J)Ljava/time/Duration;" } : Jvm.MethodName) jdk_2316_method_6_code (5 : Nat) (Option.some (Jvm.ClassFile.FieldType.object "java/time/Duration")), Jvm.Cond.code ({ cls := "java/time/Duration", name := "create", desc := "(JI)Ljava/time/Duration;" } : Jvm.MethodName) jdk_2316_method_16_code (3 : Nat) (Option.some (Jvm.ClassFile.FieldType.object "java/time/Duration")), Jvm.Cond.code ({ cls := "java/time/Duration", name := "<init>", desc := "(JI)V" } : Jvm.MethodName) jdk_2316_method_17_code (4 : Nat) (Option.none : Option Jvm.ClassFile.FieldType), Jvm.Cond.code ({ cls := "com/example/even_bucket/evenbucket/Decision", name := "refuse", desc := "(Ljava/time/Duration;)Lcom/example/even_bucket/evenbucket/Decision;" } : Jvm.MethodName) prog_19_method_3_code (1 : Nat) (Option.some (Jvm.ClassFile.FieldType.object "com/example/even_bucket/evenbucket/Decision")), Jvm.Cond.code ({ cls := "com/example/even_bucket/evenbucket/Durations", name := "requirePositiveWholeMillis", desc := "(Ljava/time/Duration;Ljava/lang/String;)Ljava/time/Duration;" } : Jvm.MethodName) prog_20_method_2_code (2 : Nat) (Option.some (Jvm.ClassFile.FieldType.object "java/time/Duration")), Jvm.Cond.code ({ cls := "java/util/Objects", name := "requireNonNull", desc := "(Ljava/lang/Object;Ljava/lang/String;)Ljava/lang/Object;" } : Jvm.MethodName) jdk_31_method_11_code (2 : Nat) (Option.some (Jvm.ClassFile.FieldType.object "java/lang/Object")), Jvm.Cond.code ({ cls := "java/time/Duration", name := "compareTo", desc := "(Ljava/time/Duration;)I" } : Jvm.MethodName) jdk_2316_method_66_code (3 : Nat) (Option.some Jvm.ClassFile.FieldType.int), Jvm.Cond.code ({ cls := "java/time/Duration", name := "getNano", desc := "()I" } : Jvm.MethodName) jdk_2316_method_24_code (1 : Nat) (Option.some Jvm.ClassFile.FieldType.int), Jvm.Cond.code ({ cls := "com/example/even_bucket/evenbucket/Admissions$Moment", name := "<init>", desc := "(JIJLcom/example/even_bucket/evenbucket/Decision;)V" } : Jvm.MethodName) prog_12_method_1_code (7 : Nat) (Option.none : Option Jvm.ClassFile.FieldType), Jvm.Cond.code ({ cls := "java/lang/Record", name := "<init>", desc := "()V" } : Jvm.MethodName) jdk_30_method_1_code (1 : Nat) (Option.none : Option Jvm.ClassFile.FieldType), Jvm.Cond.code ({ cls := "com/example/even_bucket/evenbucket/GreedyBucket", name := "idleAfter", desc := "()J" } : Jvm.MethodName) prog_26_method_8_code (1 : Nat) (Option.some Jvm.ClassFile.FieldType.long), Jvm.Cond.code ({ cls := "com/example/even_bucket/evenbucket/Admissions", name := "later", desc := "(JJ)J" } : Jvm.MethodName) prog_11_method_6_code (4 : Nat) (Option.some Jvm.ClassFile.FieldType.long), Jvm.Cond.code ({ cls := "com/example/even_bucket/evenbucket/Admissions$Moment", name := "free", desc := "()I" } : Jvm.MethodName) prog_12_method_8_code (1 : Nat) (Option.some Jvm.ClassFile.FieldType.int), Jvm.Cond.code ({ cls := "com/example/even_bucket/evenbucket/Admissions$Moment", name := "millis", desc := "()J" } : Jvm.MethodName) prog_12_method_7_code (1 : Nat) (Option.some Jvm.ClassFile.FieldType.long), Jvm.Cond.code ({ cls := "com/example/even_bucket/evenbucket/Admissions$Moment", name := "newest", desc := "()J" } : Jvm.MethodName) prog_12_method_9_code (1 : Nat) (Option.some Jvm.ClassFile.FieldType.long)]
set_option maxRecDepth 65536 in
theorem codes_eq : words1.filter isCode = codes1 := rfl
theorem w_codes : ∀ c ∈ words1.filter isCode, c.before args0 about1 = true := by
  rw [codes_eq]
  intro c hc
  simp only [codes1, List.mem_cons, List.not_mem_nil, or_false] at hc
  rcases hc with rfl | rfl | rfl | rfl | rfl | rfl | rfl | rfl | rfl | rfl | rfl | rfl | rfl | rfl | rfl | rfl | rfl | rfl | rfl | rfl | rfl | rfl | rfl | rfl | rfl | rfl | rfl | rfl | rfl | rfl | rfl
  · exact w_c0
  · exact w_c1
  · exact w_c2
  · exact w_c3
  · exact w_c4
  · exact w_c5
  · exact w_c6
  · exact w_c7
  · exact w_c8
  · exact w_c9
  · exact w_c10
  · exact w_c11
  · exact w_c12
  · exact w_c13
  · exact w_c14
  · exact w_c15
  · exact w_c16
  · exact w_c17
  · exact w_c18
  · exact w_c19
  · exact w_c20
  · exact w_c21
  · exact w_c22
  · exact w_c23
  · exact w_c24
  · exact w_c25
  · exact w_c26
  · exact w_c27
  · exact w_c28
  · exact w_c29
  · exact w_c30
set_option maxRecDepth 65536 in
theorem w_t1 : (words1.take 24).all (fun c => isCode c || c.before args0 about1) = true := by decide +kernel
set_option maxRecDepth 65536 in
theorem w_t2 : ((words1.drop 24).take 24).all (fun c => isCode c || c.before args0 about1) = true := by decide +kernel
set_option maxRecDepth 65536 in
theorem w_t3 : (((words1.drop 24).drop 24).take 24).all (fun c => isCode c || c.before args0 about1) = true := by decide +kernel
set_option maxRecDepth 65536 in
theorem w_t4 : ((((words1.drop 24).drop 24).drop 24).take 24).all (fun c => isCode c || c.before args0 about1) = true := by decide +kernel
set_option maxRecDepth 65536 in
theorem w_t5 : (((((words1.drop 24).drop 24).drop 24).drop 24).take 24).all (fun c => isCode c || c.before args0 about1) = true := by decide +kernel
set_option maxRecDepth 65536 in
theorem w_t6 : ((((((words1.drop 24).drop 24).drop 24).drop 24).drop 24).take 24).all (fun c => isCode c || c.before args0 about1) = true := by decide +kernel
set_option maxRecDepth 65536 in
theorem w_t7 : (((((((words1.drop 24).drop 24).drop 24).drop 24).drop 24).drop 24).take 24).all (fun c => isCode c || c.before args0 about1) = true := by decide +kernel
set_option maxRecDepth 65536 in
theorem w_t8 : (((((((words1.drop 24).drop 24).drop 24).drop 24).drop 24).drop 24).drop 24).all (fun c => isCode c || c.before args0 about1) = true := by decide +kernel
theorem w_tables : (allAtoms (Jvm.Cond.code x code maxLocals ret :: tables_1)).before args0 about1 = true := by
  rw [allAtoms_all]
  show words1.all (fun c => c.before args0 about1) = true
  refine all_split ?_ w_codes
  rw [← List.take_append_drop 24 words1, List.all_append, w_t1, ← List.take_append_drop 24 (words1.drop 24), List.all_append, w_t2, ← List.take_append_drop 24 ((words1.drop 24).drop 24), List.all_append, w_t3, ← List.take_append_drop 24 (((words1.drop 24).drop 24).drop 24), List.all_append, w_t4, ← List.take_append_drop 24 ((((words1.drop 24).drop 24).drop 24).drop 24), List.all_append, w_t5, ← List.take_append_drop 24 (((((words1.drop 24).drop 24).drop 24).drop 24).drop 24), List.all_append, w_t6, ← List.take_append_drop 24 ((((((words1.drop 24).drop 24).drop 24).drop 24).drop 24).drop 24), List.all_append, w_t7, w_t8]
  rfl
set_option maxRecDepth 65536 in
theorem w_rest : rest_1_c.before args0 about1 = true := by decide +kernel
set_option maxRecDepth 65536 in
theorem w_case : (Jvm.Cond.and given_1 narrow_1).before args0 about1 = true := by decide +kernel
theorem w_applies : (headSpec (Jvm.Cond.code x code maxLocals ret :: tables_1) room_1).applies x e0.platform about1 = true :=
  (Spec.applies_iff w_frames).mpr ⟨w_running, w_runnable, w_alone, w_named, w_hears, w_ripe, w_room, w_tables⟩
theorem atStart : AtStart classFile x code maxLocals ret World_1 tables_1 room_1 Calls_1 rest_1 Pre_1 launch0 p0 e0 about1 theMethod args0 below0 :=
  ⟨lists_1, trivial, launch0.admits_env _ _ _, launch0.least_env, fairChoices_fair.cas, fairChoices_fair.clock, w_frames, w_args, w_heap, w_applies, trivial, w_rest, w_case⟩
end start1
theorem witness_1 : WitnessClaimed_1 := ⟨start1.p0, start1.e0, start1.about1, start1.theMethod, start1.args0, start1.below0, start1.atStart⟩
end Jvm.Pilot.@@N@@
