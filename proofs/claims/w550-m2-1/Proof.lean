import JvmDerived
import JvmDerived.Pilot.@@N@@Statement
import JvmDerived.Pilot.@@N@@Code
set_option linter.unusedVariables false
set_option linter.unusedSimpArgs false
namespace Jvm.RoadKit
open Sem ClassFile Op Lib Jvm.Stand Jvm.Free Jvm.LawKit
section New
variable {p : Program} {l : Launch} {e : Env} {R : Room} {s : State} {m : MethodId} {args : Array Value} {below : List Frame} {meth : Method} {c : Code} {T : State} {locs : List Loc} {cells slots : Nat}
theorem retI (X : Stand p l e R s m args below meth c T locs cells slots) (hx : p.tables.exec = Jvm.exec) {pc : Nat} {Ls : Array Slot} {z : Int32} {rest : List Value} (hret : meth.sig.returnType = some .int) (hd : decode c.code pc = .ok (.ireturn, 1)) {fs : List Frame}
    (hl : ∀ (f : JFrame) (acts : List Action), f.method = m → f.locked = none → f.entered = [] → (doReturn e (T.setTop f) acts (some (.int z))).1 = T.setFrames fs) : Steps p.tables e below (T.setTop (mkF m pc Ls (.int z :: rest))) (T.setFrames fs) := by
  have hm' : T.vm.method? m = some meth := X.method'
  have hn : narrow .int (.int z) = .int z := rfl
  show Steps p.tables e below (T.setTop { method := m, pc := pc, locals := Ls, stack := _ :: rest, locked := none }) _
  jvm_step X.here [X.here.top, hx, hd, hm', hret, hn]
  first | (intro acts; rw [hl _ acts rfl rfl rfl]) | rw [hl _ _ rfl rfl rfl]
  exact Steps.refl _
end New
end Jvm.RoadKit
@@BLOCK:NumsL.lean.txt@@
namespace Jvm.Pilot.@@N@@
open Jvm Jvm.ClassFile Sem Op Lib Jvm.Free Jvm.Stand Jvm.LawKit Jvm.RoadKit Bundle Jvm.Pilot.@@N@@.Jvm.D
theorem own_eqv {args : Array Value} {s : State} {a b : Term} {x v : Value} (hb : b.eval args s none [] s = some v) (h : (Jvm.Cond.eq a b).value args s none s [] = some true) (hv : (∃ k, v = .int k) ∨ v = .null ∨ ∃ r, v = .ref r) : a.eval args s none [] s = some v := by
  obtain ⟨x, y, h1, h2, -, -⟩ := cmp_v (Or.inl h)
  cases hb.symm.trans h2
  rw [h1]
  rcases hv with ⟨k, rfl⟩ | rfl | ⟨r, rfl⟩ <;> cases x <;> simp [Cond.value, h1, hb] at h ⊢ <;> exact h
theorem own_fld {args : Array Value} {s : State} {t u : Term} {C n d : String} {b : Addr} {v : Value} (ev : t.eval args s none [] s = some (.ref b)) (hb : u.eval args s none [] s = some v) (hv : (∃ k, v = .int k) ∨ v = .null ∨ ∃ r, v = .ref r) (h : (Jvm.Cond.eq (.field t C n d) u).value args s none s [] = some true) : Fld s s.heap b C n d v := by
  have e := own_eqv (x := v) hb h hv
  rw [fld_at ev] at e
  exact Fld.start e
theorem own_uniq {Z : State} {h : Heap} {a : Addr} {C n d : String} {v w : Value} (F : Fld Z h a C n d v) (G : Fld Z h a C n d w) : v = w := by
  obtain ⟨c1, cf1, k1, i1, f1, a1, a2, -, -, -, -, a7⟩ := F
  obtain ⟨c2, cf2, k2, i2, f2, b1, b2, -, -, -, -, b7⟩ := G
  cases a1.symm.trans b1
  cases a2.symm.trans b2
  exact Option.some.inj (a7.symm.trans b7)
theorem own_apart {Z : State} {h : Heap} {a b : Addr} {C n d : String} {v w : Value} (F : Fld Z h a C n d v) (G : Fld Z h b C n d w) (q : v ≠ w) : a ≠ b := fun e => q (own_uniq F (e ▸ G))

theorem own_sta_keep {Z : State} {h h' : Heap} {C n d : String} {v : Value} (S : Sta Z h C n d v) (K : Keep h h' []) : Sta Z h' C n d v := by
  obtain ⟨cf, i, k, f, st, cell, h1, h2, h3, h4, h5, r⟩ := S
  exact ⟨cf, i, k, f, st, cell, h1, h2, h3, h4, K.2.1 _ _ h5 List.not_mem_nil, r⟩
theorem own_or17 (p : Int32) (h : 0 ≤ p.toInt ∧ p.toInt < 17) : p = (0 : Int32) ∨ p = (1 : Int32) ∨ p = (2 : Int32) ∨ p = (3 : Int32) ∨ p = (4 : Int32) ∨ p = (5 : Int32) ∨ p = (6 : Int32) ∨ p = (7 : Int32) ∨ p = (8 : Int32) ∨ p = (9 : Int32) ∨ p = (10 : Int32) ∨ p = (11 : Int32) ∨ p = (12 : Int32) ∨ p = (13 : Int32) ∨ p = (14 : Int32) ∨ p = (15 : Int32) ∨ p = (16 : Int32) := by
  have e : ∀ q : Int32, p.toInt = q.toInt → p = q := fun q h => Int32.toInt_inj.mp h
  have c : p.toInt = 0 ∨ p.toInt = 1 ∨ p.toInt = 2 ∨ p.toInt = 3 ∨ p.toInt = 4 ∨ p.toInt = 5 ∨ p.toInt = 6 ∨ p.toInt = 7 ∨ p.toInt = 8 ∨ p.toInt = 9 ∨ p.toInt = 10 ∨ p.toInt = 11 ∨ p.toInt = 12 ∨ p.toInt = 13 ∨ p.toInt = 14 ∨ p.toInt = 15 ∨ p.toInt = 16 := by omega
  rcases c with c | c | c | c | c | c | c | c | c | c | c | c | c | c | c | c | c
  · exact Or.inl (e 0 c)
  · exact Or.inr (Or.inl (e 1 c))
  · exact Or.inr (Or.inr (Or.inl (e 2 c)))
  · exact Or.inr (Or.inr (Or.inr (Or.inl (e 3 c))))
  · exact Or.inr (Or.inr (Or.inr (Or.inr (Or.inl (e 4 c)))))
  · exact Or.inr (Or.inr (Or.inr (Or.inr (Or.inr (Or.inl (e 5 c))))))
  · exact Or.inr (Or.inr (Or.inr (Or.inr (Or.inr (Or.inr (Or.inl (e 6 c)))))))
  · exact Or.inr (Or.inr (Or.inr (Or.inr (Or.inr (Or.inr (Or.inr (Or.inl (e 7 c))))))))
  · exact Or.inr (Or.inr (Or.inr (Or.inr (Or.inr (Or.inr (Or.inr (Or.inr (Or.inl (e 8 c)))))))))
  · exact Or.inr (Or.inr (Or.inr (Or.inr (Or.inr (Or.inr (Or.inr (Or.inr (Or.inr (Or.inl (e 9 c))))))))))
  · exact Or.inr (Or.inr (Or.inr (Or.inr (Or.inr (Or.inr (Or.inr (Or.inr (Or.inr (Or.inr (Or.inl (e 10 c)))))))))))
  · exact Or.inr (Or.inr (Or.inr (Or.inr (Or.inr (Or.inr (Or.inr (Or.inr (Or.inr (Or.inr (Or.inr (Or.inl (e 11 c))))))))))))
  · exact Or.inr (Or.inr (Or.inr (Or.inr (Or.inr (Or.inr (Or.inr (Or.inr (Or.inr (Or.inr (Or.inr (Or.inr (Or.inl (e 12 c)))))))))))))
  · exact Or.inr (Or.inr (Or.inr (Or.inr (Or.inr (Or.inr (Or.inr (Or.inr (Or.inr (Or.inr (Or.inr (Or.inr (Or.inr (Or.inl (e 13 c))))))))))))))
  · exact Or.inr (Or.inr (Or.inr (Or.inr (Or.inr (Or.inr (Or.inr (Or.inr (Or.inr (Or.inr (Or.inr (Or.inr (Or.inr (Or.inr (Or.inl (e 14 c)))))))))))))))
  · exact Or.inr (Or.inr (Or.inr (Or.inr (Or.inr (Or.inr (Or.inr (Or.inr (Or.inr (Or.inr (Or.inr (Or.inr (Or.inr (Or.inr (Or.inr (Or.inl (e 15 c))))))))))))))))
  · exact Or.inr (Or.inr (Or.inr (Or.inr (Or.inr (Or.inr (Or.inr (Or.inr (Or.inr (Or.inr (Or.inr (Or.inr (Or.inr (Or.inr (Or.inr (Or.inr ((e 16 c)))))))))))))))))
theorem own_mod17 (p : Int32) : 0 ≤ ((p &&& (2147483647 : Int32)) % (17 : Int32)).toInt ∧ ((p &&& (2147483647 : Int32)) % (17 : Int32)).toInt < 17 := by
  have e1 : (p &&& (2147483647 : Int32)).toInt = p.toInt % 2 ^ 31 := Jvm.Kit.i32_mask p (2147483647 : Int32) (k := 31) (by decide) (by decide)
  have e2 := Jvm.Kit.i32_rem_nonneg (x := (p &&& (2147483647 : Int32))) (y := (17 : Int32)) (by omega)
  rw [e2, show (17 : Int32).toInt = 17 from rfl]
  omega
theorem own_or5 (p : Int32) (h : 0 ≤ p.toInt ∧ p.toInt < 5) : p = (0 : Int32) ∨ p = (1 : Int32) ∨ p = (2 : Int32) ∨ p = (3 : Int32) ∨ p = (4 : Int32) := by
  have e : ∀ q : Int32, p.toInt = q.toInt → p = q := fun q h => Int32.toInt_inj.mp h
  have c : p.toInt = 0 ∨ p.toInt = 1 ∨ p.toInt = 2 ∨ p.toInt = 3 ∨ p.toInt = 4 := by omega
  rcases c with c | c | c | c | c
  · exact Or.inl (e 0 c)
  · exact Or.inr (Or.inl (e 1 c))
  · exact Or.inr (Or.inr (Or.inl (e 2 c)))
  · exact Or.inr (Or.inr (Or.inr (Or.inl (e 3 c))))
  · exact Or.inr (Or.inr (Or.inr (Or.inr ((e 4 c)))))
theorem own_mod5 (p : Int32) : 0 ≤ ((p &&& (2147483647 : Int32)) % (5 : Int32)).toInt ∧ ((p &&& (2147483647 : Int32)) % (5 : Int32)).toInt < 5 := by
  have e1 : (p &&& (2147483647 : Int32)).toInt = p.toInt % 2 ^ 31 := Jvm.Kit.i32_mask p (2147483647 : Int32) (k := 31) (by decide) (by decide)
  have e2 := Jvm.Kit.i32_rem_nonneg (x := (p &&& (2147483647 : Int32))) (y := (5 : Int32)) (by omega)
  rw [e2, show (5 : Int32).toInt = 5 from rfl]
  omega
def f_dc (p0 : Int32) (v_WARRIOR v_HUNTER v_MINER v_BLACKSMITH v_EXPLORER : Addr) : Value := if p0 < (2 : Int32) then .ref v_WARRIOR else if p0 < (4 : Int32) then .ref v_HUNTER else if p0 < (6 : Int32) then .ref v_BLACKSMITH else if p0 < (8 : Int32) then .ref v_MINER else if p0 < (10 : Int32) then .ref v_EXPLORER else .null
theorem own_dc0 (v_WARRIOR v_HUNTER v_MINER v_BLACKSMITH v_EXPLORER : Addr) : f_dc (0 : Int32) v_WARRIOR v_HUNTER v_MINER v_BLACKSMITH v_EXPLORER = .ref v_WARRIOR := by unfold f_dc; rw [if_pos (by decide)]
theorem own_dc1 (v_WARRIOR v_HUNTER v_MINER v_BLACKSMITH v_EXPLORER : Addr) : f_dc (1 : Int32) v_WARRIOR v_HUNTER v_MINER v_BLACKSMITH v_EXPLORER = .ref v_WARRIOR := by unfold f_dc; rw [if_pos (by decide)]
theorem own_dc2 (v_WARRIOR v_HUNTER v_MINER v_BLACKSMITH v_EXPLORER : Addr) : f_dc (2 : Int32) v_WARRIOR v_HUNTER v_MINER v_BLACKSMITH v_EXPLORER = .ref v_HUNTER := by unfold f_dc; rw [if_neg (by decide), if_pos (by decide)]
theorem own_dc3 (v_WARRIOR v_HUNTER v_MINER v_BLACKSMITH v_EXPLORER : Addr) : f_dc (3 : Int32) v_WARRIOR v_HUNTER v_MINER v_BLACKSMITH v_EXPLORER = .ref v_HUNTER := by unfold f_dc; rw [if_neg (by decide), if_pos (by decide)]
theorem own_dc4 (v_WARRIOR v_HUNTER v_MINER v_BLACKSMITH v_EXPLORER : Addr) : f_dc (4 : Int32) v_WARRIOR v_HUNTER v_MINER v_BLACKSMITH v_EXPLORER = .ref v_BLACKSMITH := by unfold f_dc; rw [if_neg (by decide), if_neg (by decide), if_pos (by decide)]
theorem own_dc5 (v_WARRIOR v_HUNTER v_MINER v_BLACKSMITH v_EXPLORER : Addr) : f_dc (5 : Int32) v_WARRIOR v_HUNTER v_MINER v_BLACKSMITH v_EXPLORER = .ref v_BLACKSMITH := by unfold f_dc; rw [if_neg (by decide), if_neg (by decide), if_pos (by decide)]
theorem own_dc6 (v_WARRIOR v_HUNTER v_MINER v_BLACKSMITH v_EXPLORER : Addr) : f_dc (6 : Int32) v_WARRIOR v_HUNTER v_MINER v_BLACKSMITH v_EXPLORER = .ref v_MINER := by unfold f_dc; rw [if_neg (by decide), if_neg (by decide), if_neg (by decide), if_pos (by decide)]
theorem own_dc7 (v_WARRIOR v_HUNTER v_MINER v_BLACKSMITH v_EXPLORER : Addr) : f_dc (7 : Int32) v_WARRIOR v_HUNTER v_MINER v_BLACKSMITH v_EXPLORER = .ref v_MINER := by unfold f_dc; rw [if_neg (by decide), if_neg (by decide), if_neg (by decide), if_pos (by decide)]
theorem own_dc8 (v_WARRIOR v_HUNTER v_MINER v_BLACKSMITH v_EXPLORER : Addr) : f_dc (8 : Int32) v_WARRIOR v_HUNTER v_MINER v_BLACKSMITH v_EXPLORER = .ref v_EXPLORER := by unfold f_dc; rw [if_neg (by decide), if_neg (by decide), if_neg (by decide), if_neg (by decide), if_pos (by decide)]
theorem own_dc9 (v_WARRIOR v_HUNTER v_MINER v_BLACKSMITH v_EXPLORER : Addr) : f_dc (9 : Int32) v_WARRIOR v_HUNTER v_MINER v_BLACKSMITH v_EXPLORER = .ref v_EXPLORER := by unfold f_dc; rw [if_neg (by decide), if_neg (by decide), if_neg (by decide), if_neg (by decide), if_pos (by decide)]
theorem own_dc10 (v_WARRIOR v_HUNTER v_MINER v_BLACKSMITH v_EXPLORER : Addr) : f_dc (10 : Int32) v_WARRIOR v_HUNTER v_MINER v_BLACKSMITH v_EXPLORER = .null := by unfold f_dc; rw [if_neg (by decide), if_neg (by decide), if_neg (by decide), if_neg (by decide), if_neg (by decide)]
theorem own_dc11 (v_WARRIOR v_HUNTER v_MINER v_BLACKSMITH v_EXPLORER : Addr) : f_dc (11 : Int32) v_WARRIOR v_HUNTER v_MINER v_BLACKSMITH v_EXPLORER = .null := by unfold f_dc; rw [if_neg (by decide), if_neg (by decide), if_neg (by decide), if_neg (by decide), if_neg (by decide)]
theorem own_dc12 (v_WARRIOR v_HUNTER v_MINER v_BLACKSMITH v_EXPLORER : Addr) : f_dc (12 : Int32) v_WARRIOR v_HUNTER v_MINER v_BLACKSMITH v_EXPLORER = .null := by unfold f_dc; rw [if_neg (by decide), if_neg (by decide), if_neg (by decide), if_neg (by decide), if_neg (by decide)]
theorem own_dc13 (v_WARRIOR v_HUNTER v_MINER v_BLACKSMITH v_EXPLORER : Addr) : f_dc (13 : Int32) v_WARRIOR v_HUNTER v_MINER v_BLACKSMITH v_EXPLORER = .null := by unfold f_dc; rw [if_neg (by decide), if_neg (by decide), if_neg (by decide), if_neg (by decide), if_neg (by decide)]
theorem own_dc14 (v_WARRIOR v_HUNTER v_MINER v_BLACKSMITH v_EXPLORER : Addr) : f_dc (14 : Int32) v_WARRIOR v_HUNTER v_MINER v_BLACKSMITH v_EXPLORER = .null := by unfold f_dc; rw [if_neg (by decide), if_neg (by decide), if_neg (by decide), if_neg (by decide), if_neg (by decide)]
theorem own_dc15 (v_WARRIOR v_HUNTER v_MINER v_BLACKSMITH v_EXPLORER : Addr) : f_dc (15 : Int32) v_WARRIOR v_HUNTER v_MINER v_BLACKSMITH v_EXPLORER = .null := by unfold f_dc; rw [if_neg (by decide), if_neg (by decide), if_neg (by decide), if_neg (by decide), if_neg (by decide)]
theorem own_dc16 (v_WARRIOR v_HUNTER v_MINER v_BLACKSMITH v_EXPLORER : Addr) : f_dc (16 : Int32) v_WARRIOR v_HUNTER v_MINER v_BLACKSMITH v_EXPLORER = .null := by unfold f_dc; rw [if_neg (by decide), if_neg (by decide), if_neg (by decide), if_neg (by decide), if_neg (by decide)]
theorem own_dcref (p0 : Int32) (v_WARRIOR v_HUNTER v_MINER v_BLACKSMITH v_EXPLORER : Addr) : (f_dc p0 v_WARRIOR v_HUNTER v_MINER v_BLACKSMITH v_EXPLORER).isRef = true := by unfold f_dc; (repeat' split) <;> rfl
theorem d1_0 : decode method_2_code 0 = .ok (.bipush 17, 2) := by decide +kernel
theorem d1_2 : decode method_2_code 2 = .ok (.anewarray 7, 3) := by decide +kernel
theorem d1_5 : decode method_2_code 5 = .ok (.dup, 1) := by decide +kernel
theorem d1_6 : decode method_2_code 6 = .ok (.iconst 0, 1) := by decide +kernel
theorem d1_7 : decode method_2_code 7 = .ok (.getstatic 9, 3) := by decide +kernel
theorem d1_10 : decode method_2_code 10 = .ok (.aastore, 1) := by decide +kernel
theorem d1_11 : decode method_2_code 11 = .ok (.dup, 1) := by decide +kernel
theorem d1_12 : decode method_2_code 12 = .ok (.iconst 1, 1) := by decide +kernel
theorem d1_13 : decode method_2_code 13 = .ok (.getstatic 13, 3) := by decide +kernel
theorem d1_16 : decode method_2_code 16 = .ok (.aastore, 1) := by decide +kernel
theorem d1_17 : decode method_2_code 17 = .ok (.dup, 1) := by decide +kernel
theorem d1_18 : decode method_2_code 18 = .ok (.iconst 2, 1) := by decide +kernel
theorem d1_19 : decode method_2_code 19 = .ok (.getstatic 16, 3) := by decide +kernel
theorem d1_22 : decode method_2_code 22 = .ok (.aastore, 1) := by decide +kernel
theorem d1_23 : decode method_2_code 23 = .ok (.dup, 1) := by decide +kernel
theorem d1_24 : decode method_2_code 24 = .ok (.iconst 3, 1) := by decide +kernel
theorem d1_25 : decode method_2_code 25 = .ok (.getstatic 19, 3) := by decide +kernel
theorem d1_28 : decode method_2_code 28 = .ok (.aastore, 1) := by decide +kernel
theorem d1_29 : decode method_2_code 29 = .ok (.dup, 1) := by decide +kernel
theorem d1_30 : decode method_2_code 30 = .ok (.iconst 4, 1) := by decide +kernel
theorem d1_31 : decode method_2_code 31 = .ok (.getstatic 22, 3) := by decide +kernel
theorem d1_34 : decode method_2_code 34 = .ok (.aastore, 1) := by decide +kernel
theorem d1_35 : decode method_2_code 35 = .ok (.dup, 1) := by decide +kernel
theorem d1_36 : decode method_2_code 36 = .ok (.iconst 5, 1) := by decide +kernel
theorem d1_37 : decode method_2_code 37 = .ok (.getstatic 25, 3) := by decide +kernel
theorem d1_40 : decode method_2_code 40 = .ok (.aastore, 1) := by decide +kernel
theorem d1_41 : decode method_2_code 41 = .ok (.dup, 1) := by decide +kernel
theorem d1_42 : decode method_2_code 42 = .ok (.bipush 6, 2) := by decide +kernel
theorem d1_44 : decode method_2_code 44 = .ok (.getstatic 28, 3) := by decide +kernel
theorem d1_47 : decode method_2_code 47 = .ok (.aastore, 1) := by decide +kernel
theorem d1_48 : decode method_2_code 48 = .ok (.dup, 1) := by decide +kernel
theorem d1_49 : decode method_2_code 49 = .ok (.bipush 7, 2) := by decide +kernel
theorem d1_51 : decode method_2_code 51 = .ok (.getstatic 31, 3) := by decide +kernel
theorem d1_54 : decode method_2_code 54 = .ok (.aastore, 1) := by decide +kernel
theorem d1_55 : decode method_2_code 55 = .ok (.dup, 1) := by decide +kernel
theorem d1_56 : decode method_2_code 56 = .ok (.bipush 8, 2) := by decide +kernel
theorem d1_58 : decode method_2_code 58 = .ok (.getstatic 34, 3) := by decide +kernel
theorem d1_61 : decode method_2_code 61 = .ok (.aastore, 1) := by decide +kernel
theorem d1_62 : decode method_2_code 62 = .ok (.dup, 1) := by decide +kernel
theorem d1_63 : decode method_2_code 63 = .ok (.bipush 9, 2) := by decide +kernel
theorem d1_65 : decode method_2_code 65 = .ok (.getstatic 37, 3) := by decide +kernel
theorem d1_68 : decode method_2_code 68 = .ok (.aastore, 1) := by decide +kernel
theorem d1_69 : decode method_2_code 69 = .ok (.dup, 1) := by decide +kernel
theorem d1_70 : decode method_2_code 70 = .ok (.bipush 10, 2) := by decide +kernel
theorem d1_72 : decode method_2_code 72 = .ok (.getstatic 40, 3) := by decide +kernel
theorem d1_75 : decode method_2_code 75 = .ok (.aastore, 1) := by decide +kernel
theorem d1_76 : decode method_2_code 76 = .ok (.dup, 1) := by decide +kernel
theorem d1_77 : decode method_2_code 77 = .ok (.bipush 11, 2) := by decide +kernel
theorem d1_79 : decode method_2_code 79 = .ok (.getstatic 43, 3) := by decide +kernel
theorem d1_82 : decode method_2_code 82 = .ok (.aastore, 1) := by decide +kernel
theorem d1_83 : decode method_2_code 83 = .ok (.dup, 1) := by decide +kernel
theorem d1_84 : decode method_2_code 84 = .ok (.bipush 12, 2) := by decide +kernel
theorem d1_86 : decode method_2_code 86 = .ok (.getstatic 46, 3) := by decide +kernel
theorem d1_89 : decode method_2_code 89 = .ok (.aastore, 1) := by decide +kernel
theorem d1_90 : decode method_2_code 90 = .ok (.dup, 1) := by decide +kernel
theorem d1_91 : decode method_2_code 91 = .ok (.bipush 13, 2) := by decide +kernel
theorem d1_93 : decode method_2_code 93 = .ok (.getstatic 49, 3) := by decide +kernel
theorem d1_96 : decode method_2_code 96 = .ok (.aastore, 1) := by decide +kernel
theorem d1_97 : decode method_2_code 97 = .ok (.dup, 1) := by decide +kernel
theorem d1_98 : decode method_2_code 98 = .ok (.bipush 14, 2) := by decide +kernel
theorem d1_100 : decode method_2_code 100 = .ok (.getstatic 52, 3) := by decide +kernel
theorem d1_103 : decode method_2_code 103 = .ok (.aastore, 1) := by decide +kernel
theorem d1_104 : decode method_2_code 104 = .ok (.dup, 1) := by decide +kernel
theorem d1_105 : decode method_2_code 105 = .ok (.bipush 15, 2) := by decide +kernel
theorem d1_107 : decode method_2_code 107 = .ok (.getstatic 55, 3) := by decide +kernel
theorem d1_110 : decode method_2_code 110 = .ok (.aastore, 1) := by decide +kernel
theorem d1_111 : decode method_2_code 111 = .ok (.dup, 1) := by decide +kernel
theorem d1_112 : decode method_2_code 112 = .ok (.bipush 16, 2) := by decide +kernel
theorem d1_114 : decode method_2_code 114 = .ok (.getstatic 58, 3) := by decide +kernel
theorem d1_117 : decode method_2_code 117 = .ok (.aastore, 1) := by decide +kernel
theorem d1_118 : decode method_2_code 118 = .ok (.astore_n 1, 1) := by decide +kernel
theorem d1_119 : decode method_2_code 119 = .ok (.aload_n 1, 1) := by decide +kernel
theorem d1_120 : decode method_2_code 120 = .ok (.iload_n 0, 1) := by decide +kernel
theorem d1_121 : decode method_2_code 121 = .ok (.aaload, 1) := by decide +kernel
theorem d1_122 : decode method_2_code 122 = .ok (.areturn, 1) := by decide +kernel
theorem pn_HeroMayEndInPinLaw : plainName "com/example/runehall/runehall/tavern/HeroMayEndInPinLaw" = true := by first | (simp [plainName, overriddenIn]; done) | decide +kernel
theorem ef1 (m : MethodId) (x0 : Int32) : entryFrame m #[(.int x0)] 2 = mkF m 0 #[.val (.int x0), .unset] [] := by first | (simp [entryFrame, mkF, argsToLocals, Value.category]; done) | rfl
def Q1 (Z : State) (p0 : Int32) (v_VENAL : Addr) (v_DEADLY : Addr) (v_EAGLE_EYE : Addr) (v_EXPLOSIVE : Addr) (v_STEEL_FIST : Addr) (v_TYRANT : Addr) (v_FOREMAN : Addr) (v_GREEDY : Addr) (v_ELUSIVE : Addr) (v_STEALTHY : Addr) (v_UNPREDICTABLE : Addr) (v_BROTHER : Addr) (v_UNFATHOMABLE : Addr) (v_FORTUNATE : Addr) (v_MERCHANT : Addr) (v_SEER : Addr) (v_HEADHUNTER : Addr) (v_WARRIOR : Addr) (v_HUNTER : Addr) (v_MINER : Addr) (v_BLACKSMITH : Addr) (v_EXPLORER : Addr) (h0 : Heap) (n0 : Nat) (v : Option Value) (h : Heap) (L : List Loc) : Prop := ∃ bb : Addr, v = some (.ref bb) ∧ Fr n0 L ∧ Keep h0 h [] ∧ Exa Z h bb "com/example/runehall/runehall/tavern/Hero" ∧ Fld Z h bb "com/example/runehall/runehall/tavern/Hero" "dwarfClass" "Lcom/example/runehall/runehall/tavern/DwarfClass;" (f_dc p0 v_WARRIOR v_HUNTER v_MINER v_BLACKSMITH v_EXPLORER) ∧ Fld Z h bb "java/lang/Enum" "ordinal" "I" (.int p0) ∧ (p0 = (10 : Int32) → bb = v_UNPREDICTABLE)
set_option maxRecDepth 65536 in
set_option maxHeartbeats 40000000 in
theorem rm1 (l : Launch) (Z : State) (a0 : Array Value) (hw : ∀ d ∈ tables_1, d.before a0 Z = true) (ws : List Jvm.Cond) (p0 : Int32) (v_VENAL : Addr) (v_DEADLY : Addr) (v_EAGLE_EYE : Addr) (v_EXPLOSIVE : Addr) (v_STEEL_FIST : Addr) (v_TYRANT : Addr) (v_FOREMAN : Addr) (v_GREEDY : Addr) (v_ELUSIVE : Addr) (v_STEALTHY : Addr) (v_UNPREDICTABLE : Addr) (v_BROTHER : Addr) (v_UNFATHOMABLE : Addr) (v_FORTUNATE : Addr) (v_MERCHANT : Addr) (v_SEER : Addr) (v_HEADHUNTER : Addr) (v_WARRIOR : Addr) (v_HUNTER : Addr) (v_MINER : Addr) (v_BLACKSMITH : Addr) (v_EXPLORER : Addr) (h0 : Heap) (n0 : Nat) (Z0 : n0 ≤ h0.size) (hr : 0 ≤ p0.toInt ∧ p0.toInt < 17) (Sv_VENAL : Sta Z h0 "com/example/runehall/runehall/tavern/Hero" "VENAL" "Lcom/example/runehall/runehall/tavern/Hero;" (.ref v_VENAL)) (Ev_VENAL : Exa Z h0 v_VENAL "com/example/runehall/runehall/tavern/Hero") (Sv_DEADLY : Sta Z h0 "com/example/runehall/runehall/tavern/Hero" "DEADLY" "Lcom/example/runehall/runehall/tavern/Hero;" (.ref v_DEADLY)) (Ev_DEADLY : Exa Z h0 v_DEADLY "com/example/runehall/runehall/tavern/Hero") (Sv_EAGLE_EYE : Sta Z h0 "com/example/runehall/runehall/tavern/Hero" "EAGLE_EYE" "Lcom/example/runehall/runehall/tavern/Hero;" (.ref v_EAGLE_EYE)) (Ev_EAGLE_EYE : Exa Z h0 v_EAGLE_EYE "com/example/runehall/runehall/tavern/Hero") (Sv_EXPLOSIVE : Sta Z h0 "com/example/runehall/runehall/tavern/Hero" "EXPLOSIVE" "Lcom/example/runehall/runehall/tavern/Hero;" (.ref v_EXPLOSIVE)) (Ev_EXPLOSIVE : Exa Z h0 v_EXPLOSIVE "com/example/runehall/runehall/tavern/Hero") (Sv_STEEL_FIST : Sta Z h0 "com/example/runehall/runehall/tavern/Hero" "STEEL_FIST" "Lcom/example/runehall/runehall/tavern/Hero;" (.ref v_STEEL_FIST)) (Ev_STEEL_FIST : Exa Z h0 v_STEEL_FIST "com/example/runehall/runehall/tavern/Hero") (Sv_TYRANT : Sta Z h0 "com/example/runehall/runehall/tavern/Hero" "TYRANT" "Lcom/example/runehall/runehall/tavern/Hero;" (.ref v_TYRANT)) (Ev_TYRANT : Exa Z h0 v_TYRANT "com/example/runehall/runehall/tavern/Hero") (Sv_FOREMAN : Sta Z h0 "com/example/runehall/runehall/tavern/Hero" "FOREMAN" "Lcom/example/runehall/runehall/tavern/Hero;" (.ref v_FOREMAN)) (Ev_FOREMAN : Exa Z h0 v_FOREMAN "com/example/runehall/runehall/tavern/Hero") (Sv_GREEDY : Sta Z h0 "com/example/runehall/runehall/tavern/Hero" "GREEDY" "Lcom/example/runehall/runehall/tavern/Hero;" (.ref v_GREEDY)) (Ev_GREEDY : Exa Z h0 v_GREEDY "com/example/runehall/runehall/tavern/Hero") (Sv_ELUSIVE : Sta Z h0 "com/example/runehall/runehall/tavern/Hero" "ELUSIVE" "Lcom/example/runehall/runehall/tavern/Hero;" (.ref v_ELUSIVE)) (Ev_ELUSIVE : Exa Z h0 v_ELUSIVE "com/example/runehall/runehall/tavern/Hero") (Sv_STEALTHY : Sta Z h0 "com/example/runehall/runehall/tavern/Hero" "STEALTHY" "Lcom/example/runehall/runehall/tavern/Hero;" (.ref v_STEALTHY)) (Ev_STEALTHY : Exa Z h0 v_STEALTHY "com/example/runehall/runehall/tavern/Hero") (Sv_UNPREDICTABLE : Sta Z h0 "com/example/runehall/runehall/tavern/Hero" "UNPREDICTABLE" "Lcom/example/runehall/runehall/tavern/Hero;" (.ref v_UNPREDICTABLE)) (Ev_UNPREDICTABLE : Exa Z h0 v_UNPREDICTABLE "com/example/runehall/runehall/tavern/Hero") (Sv_BROTHER : Sta Z h0 "com/example/runehall/runehall/tavern/Hero" "BROTHER" "Lcom/example/runehall/runehall/tavern/Hero;" (.ref v_BROTHER)) (Ev_BROTHER : Exa Z h0 v_BROTHER "com/example/runehall/runehall/tavern/Hero") (Sv_UNFATHOMABLE : Sta Z h0 "com/example/runehall/runehall/tavern/Hero" "UNFATHOMABLE" "Lcom/example/runehall/runehall/tavern/Hero;" (.ref v_UNFATHOMABLE)) (Ev_UNFATHOMABLE : Exa Z h0 v_UNFATHOMABLE "com/example/runehall/runehall/tavern/Hero") (Sv_FORTUNATE : Sta Z h0 "com/example/runehall/runehall/tavern/Hero" "FORTUNATE" "Lcom/example/runehall/runehall/tavern/Hero;" (.ref v_FORTUNATE)) (Ev_FORTUNATE : Exa Z h0 v_FORTUNATE "com/example/runehall/runehall/tavern/Hero") (Sv_MERCHANT : Sta Z h0 "com/example/runehall/runehall/tavern/Hero" "MERCHANT" "Lcom/example/runehall/runehall/tavern/Hero;" (.ref v_MERCHANT)) (Ev_MERCHANT : Exa Z h0 v_MERCHANT "com/example/runehall/runehall/tavern/Hero") (Sv_SEER : Sta Z h0 "com/example/runehall/runehall/tavern/Hero" "SEER" "Lcom/example/runehall/runehall/tavern/Hero;" (.ref v_SEER)) (Ev_SEER : Exa Z h0 v_SEER "com/example/runehall/runehall/tavern/Hero") (Sv_HEADHUNTER : Sta Z h0 "com/example/runehall/runehall/tavern/Hero" "HEADHUNTER" "Lcom/example/runehall/runehall/tavern/Hero;" (.ref v_HEADHUNTER)) (Ev_HEADHUNTER : Exa Z h0 v_HEADHUNTER "com/example/runehall/runehall/tavern/Hero") (Sv_WARRIOR : Sta Z h0 "com/example/runehall/runehall/tavern/DwarfClass" "WARRIOR" "Lcom/example/runehall/runehall/tavern/DwarfClass;" (.ref v_WARRIOR)) (Ev_WARRIOR : Exa Z h0 v_WARRIOR "com/example/runehall/runehall/tavern/DwarfClass") (Sv_HUNTER : Sta Z h0 "com/example/runehall/runehall/tavern/DwarfClass" "HUNTER" "Lcom/example/runehall/runehall/tavern/DwarfClass;" (.ref v_HUNTER)) (Ev_HUNTER : Exa Z h0 v_HUNTER "com/example/runehall/runehall/tavern/DwarfClass") (Sv_MINER : Sta Z h0 "com/example/runehall/runehall/tavern/DwarfClass" "MINER" "Lcom/example/runehall/runehall/tavern/DwarfClass;" (.ref v_MINER)) (Ev_MINER : Exa Z h0 v_MINER "com/example/runehall/runehall/tavern/DwarfClass") (Sv_BLACKSMITH : Sta Z h0 "com/example/runehall/runehall/tavern/DwarfClass" "BLACKSMITH" "Lcom/example/runehall/runehall/tavern/DwarfClass;" (.ref v_BLACKSMITH)) (Ev_BLACKSMITH : Exa Z h0 v_BLACKSMITH "com/example/runehall/runehall/tavern/DwarfClass") (Sv_EXPLORER : Sta Z h0 "com/example/runehall/runehall/tavern/DwarfClass" "EXPLORER" "Lcom/example/runehall/runehall/tavern/DwarfClass;" (.ref v_EXPLORER)) (Ev_EXPLORER : Exa Z h0 v_EXPLORER "com/example/runehall/runehall/tavern/DwarfClass") (Fv_VENAL_ordinal : Fld Z h0 v_VENAL "java/lang/Enum" "ordinal" "I" (.int (0 : Int32))) (Fv_UNPREDICTABLE_ordinal : Fld Z h0 v_UNPREDICTABLE "java/lang/Enum" "ordinal" "I" (.int (10 : Int32))) (Fv_VENAL_dwarfClass : Fld Z h0 v_VENAL "com/example/runehall/runehall/tavern/Hero" "dwarfClass" "Lcom/example/runehall/runehall/tavern/DwarfClass;" (.ref v_WARRIOR)) (Fv_BLACKSMITH_ordinal : Fld Z h0 v_BLACKSMITH "java/lang/Enum" "ordinal" "I" (.int (3 : Int32))) (Fv_WARRIOR_ordinal : Fld Z h0 v_WARRIOR "java/lang/Enum" "ordinal" "I" (.int (0 : Int32))) (Fv_MERCHANT_ordinal : Fld Z h0 v_MERCHANT "java/lang/Enum" "ordinal" "I" (.int (14 : Int32))) (Fv_MERCHANT_dwarfClass : Fld Z h0 v_MERCHANT "com/example/runehall/runehall/tavern/Hero" "dwarfClass" "Lcom/example/runehall/runehall/tavern/DwarfClass;" .null) (Fv_FOREMAN_ordinal : Fld Z h0 v_FOREMAN "java/lang/Enum" "ordinal" "I" (.int (6 : Int32))) (Fv_FOREMAN_dwarfClass : Fld Z h0 v_FOREMAN "com/example/runehall/runehall/tavern/Hero" "dwarfClass" "Lcom/example/runehall/runehall/tavern/DwarfClass;" (.ref v_MINER)) (Fv_HUNTER_ordinal : Fld Z h0 v_HUNTER "java/lang/Enum" "ordinal" "I" (.int (1 : Int32))) (Fv_MINER_ordinal : Fld Z h0 v_MINER "java/lang/Enum" "ordinal" "I" (.int (2 : Int32))) (Fv_HEADHUNTER_ordinal : Fld Z h0 v_HEADHUNTER "java/lang/Enum" "ordinal" "I" (.int (16 : Int32))) (Fv_HEADHUNTER_dwarfClass : Fld Z h0 v_HEADHUNTER "com/example/runehall/runehall/tavern/Hero" "dwarfClass" "Lcom/example/runehall/runehall/tavern/DwarfClass;" .null) (Fv_DEADLY_ordinal : Fld Z h0 v_DEADLY "java/lang/Enum" "ordinal" "I" (.int (1 : Int32))) (Fv_DEADLY_dwarfClass : Fld Z h0 v_DEADLY "com/example/runehall/runehall/tavern/Hero" "dwarfClass" "Lcom/example/runehall/runehall/tavern/DwarfClass;" (.ref v_WARRIOR)) (Fv_GREEDY_ordinal : Fld Z h0 v_GREEDY "java/lang/Enum" "ordinal" "I" (.int (7 : Int32))) (Fv_GREEDY_dwarfClass : Fld Z h0 v_GREEDY "com/example/runehall/runehall/tavern/Hero" "dwarfClass" "Lcom/example/runehall/runehall/tavern/DwarfClass;" (.ref v_MINER)) (Fv_ELUSIVE_ordinal : Fld Z h0 v_ELUSIVE "java/lang/Enum" "ordinal" "I" (.int (8 : Int32))) (Fv_ELUSIVE_dwarfClass : Fld Z h0 v_ELUSIVE "com/example/runehall/runehall/tavern/Hero" "dwarfClass" "Lcom/example/runehall/runehall/tavern/DwarfClass;" (.ref v_EXPLORER)) (Fv_EXPLORER_ordinal : Fld Z h0 v_EXPLORER "java/lang/Enum" "ordinal" "I" (.int (4 : Int32))) (Fv_UNFATHOMABLE_ordinal : Fld Z h0 v_UNFATHOMABLE "java/lang/Enum" "ordinal" "I" (.int (12 : Int32))) (Fv_UNFATHOMABLE_dwarfClass : Fld Z h0 v_UNFATHOMABLE "com/example/runehall/runehall/tavern/Hero" "dwarfClass" "Lcom/example/runehall/runehall/tavern/DwarfClass;" .null) (Fv_EXPLOSIVE_ordinal : Fld Z h0 v_EXPLOSIVE "java/lang/Enum" "ordinal" "I" (.int (3 : Int32))) (Fv_EXPLOSIVE_dwarfClass : Fld Z h0 v_EXPLOSIVE "com/example/runehall/runehall/tavern/Hero" "dwarfClass" "Lcom/example/runehall/runehall/tavern/DwarfClass;" (.ref v_HUNTER)) (Fv_STEEL_FIST_ordinal : Fld Z h0 v_STEEL_FIST "java/lang/Enum" "ordinal" "I" (.int (4 : Int32))) (Fv_STEEL_FIST_dwarfClass : Fld Z h0 v_STEEL_FIST "com/example/runehall/runehall/tavern/Hero" "dwarfClass" "Lcom/example/runehall/runehall/tavern/DwarfClass;" (.ref v_BLACKSMITH)) (Fv_EAGLE_EYE_ordinal : Fld Z h0 v_EAGLE_EYE "java/lang/Enum" "ordinal" "I" (.int (2 : Int32))) (Fv_EAGLE_EYE_dwarfClass : Fld Z h0 v_EAGLE_EYE "com/example/runehall/runehall/tavern/Hero" "dwarfClass" "Lcom/example/runehall/runehall/tavern/DwarfClass;" (.ref v_HUNTER)) (Fv_FORTUNATE_ordinal : Fld Z h0 v_FORTUNATE "java/lang/Enum" "ordinal" "I" (.int (13 : Int32))) (Fv_FORTUNATE_dwarfClass : Fld Z h0 v_FORTUNATE "com/example/runehall/runehall/tavern/Hero" "dwarfClass" "Lcom/example/runehall/runehall/tavern/DwarfClass;" .null) (Fv_BROTHER_ordinal : Fld Z h0 v_BROTHER "java/lang/Enum" "ordinal" "I" (.int (11 : Int32))) (Fv_BROTHER_dwarfClass : Fld Z h0 v_BROTHER "com/example/runehall/runehall/tavern/Hero" "dwarfClass" "Lcom/example/runehall/runehall/tavern/DwarfClass;" .null) (Fv_STEALTHY_ordinal : Fld Z h0 v_STEALTHY "java/lang/Enum" "ordinal" "I" (.int (9 : Int32))) (Fv_STEALTHY_dwarfClass : Fld Z h0 v_STEALTHY "com/example/runehall/runehall/tavern/Hero" "dwarfClass" "Lcom/example/runehall/runehall/tavern/DwarfClass;" (.ref v_EXPLORER)) (Fv_TYRANT_ordinal : Fld Z h0 v_TYRANT "java/lang/Enum" "ordinal" "I" (.int (5 : Int32))) (Fv_TYRANT_dwarfClass : Fld Z h0 v_TYRANT "com/example/runehall/runehall/tavern/Hero" "dwarfClass" "Lcom/example/runehall/runehall/tavern/DwarfClass;" (.ref v_BLACKSMITH)) (Fv_SEER_ordinal : Fld Z h0 v_SEER "java/lang/Enum" "ordinal" "I" (.int (15 : Int32))) (Fv_SEER_dwarfClass : Fld Z h0 v_SEER "com/example/runehall/runehall/tavern/Hero" "dwarfClass" "Lcom/example/runehall/runehall/tavern/DwarfClass;" .null) (Fv_UNPREDICTABLE_dwarfClass : Fld Z h0 v_UNPREDICTABLE "com/example/runehall/runehall/tavern/Hero" "dwarfClass" "Lcom/example/runehall/runehall/tavern/DwarfClass;" .null) :
    MetFree l (⟨"com/example/runehall/runehall/tavern/HeroMayEndInPinLaw", "hero", "(I)Lcom/example/runehall/runehall/tavern/Hero;"⟩ : MethodName) (head1 (Jvm.Cond.code (⟨"com/example/runehall/runehall/tavern/HeroMayEndInPinLaw", "hero", "(I)Lcom/example/runehall/runehall/tavern/Hero;"⟩ : MethodName) method_2_code 2 (some (.object "com/example/runehall/runehall/tavern/Hero")) :: ws) ({ frames := 0, cells := 1, slots := 17, locals := 0 } : Room)) (fun a U => a = #[(.int p0)] ∧ Z.Warmed39 U.vm ∧ U.heap = h0) (fun _ _ _ _ _ => True) (fun _ U o U' => ∃ v L, o = .returned v ∧ Q1 Z p0 v_VENAL v_DEADLY v_EAGLE_EYE v_EXPLOSIVE v_STEEL_FIST v_TYRANT v_FOREMAN v_GREEDY v_ELUSIVE v_STEALTHY v_UNPREDICTABLE v_BROTHER v_UNFATHOMABLE v_FORTUNATE v_MERCHANT v_SEER v_HEADHUNTER v_WARRIOR v_HUNTER v_MINER v_BLACKSMITH v_EXPLORER h0 n0 v U'.heap L ∧ FrameEnd U o U' L ({ frames := 0, cells := 1, slots := 17, locals := 0 } : Room).cells ({ frames := 0, cells := 1, slots := 17, locals := 0 } : Room).slots) := by
  refine MetFree.of_bodySF (plainFor_of_name pn_HeroMayEndInPinLaw) hisR ?_
  intro p e s m args below meth c s₁ Bd hml0 hP hK
  obtain ⟨rfl, hZ, hh⟩ := hP
  have hx := Bd.exec
  have hby := Bd.bytes
  have hml : c.maxLocals = 2 := hml0
  have hown : s.vm.findClass "com/example/runehall/runehall/tavern/HeroMayEndInPinLaw" = some m.cls := findClass_of_methodNamed Bd.named
  have hnm := (name_of_methodNamed Bd.named Bd.method).1
  have X0 : Stand p l e ({ frames := 0, cells := 1, slots := 17, locals := 0 } : Room) s m #[(.int p0)] below meth c s₁ [] 0 0 := Stand.of_body Bd
  have e0 : s₁.heap = h0 := by rw [← hh, Bd.state]; rfl
  have N0 := Fr.nil n0
  have pre0 : ∀ t, Steps p.tables e below (s₁.setTop (mkF m 0 #[.val (.int p0), .unset] [])) t → Steps p.tables e below (s₁.setTop (entryFrame m #[(.int p0)] 2)) t := fun t k => castTop (ef1 m p0) k
  obtain ⟨T1, h1, k1, X1, e1, E1, A1, O1, st1⟩ := newR X0 hx hZ hown (hw _ (List.mem_of_getElem? (i := 5) rfl)) (hw _ (List.mem_of_getElem? (i := 6) rfl)) e0 (g := (mkF m 2 #[.val (.int p0), .unset] [(.int (17 : Int32))])) rfl (hb hby d1_2) rfl (by decide) (cap := 17) (by decide) (by decide) (by decide) (by decide)
  obtain ⟨b1, g1⟩ : ∃ z, z = h0.size := ⟨_, rfl⟩
  rw [← g1] at A1 st1
  have ge_b1 : n0 ≤ b1 := Nat.le_trans Z0 (Nat.le_of_eq g1.symm)
  have sz_b1 : h0.size ≤ b1 := Nat.le_of_eq g1.symm
  have K2 : Keep h0 h1 [] := (Keep.refl h0 []).ext E1
  have V1 : Arv Z h1 b1 k1 (.object "com/example/runehall/runehall/tavern/Hero") (17 : Int32) [.null, .null, .null, .null, .null, .null, .null, .null, .null, .null, .null, .null, .null, .null, .null, .null, .null] .null := (Arv.new A1 (by decide)).pad (pad_rep [] .null 17)
  have c3 : Sta Z h1 "com/example/runehall/runehall/tavern/Hero" "VENAL" "Lcom/example/runehall/runehall/tavern/Hero;" (.ref v_VENAL) := (Sv_VENAL.ext E1)
  obtain ⟨T4, X4, e4, st4⟩ := getS2 X1 hx hZ hown (host := "") (Or.inl (hw _ (List.mem_of_getElem? (i := 7) rfl))) Via.refl e1 c3 (g := (mkF m 7 #[.val (.int p0), .unset] [(.int (0 : Int32)), (.ref b1), (.ref b1)])) rfl (hb hby d1_7)
  obtain ⟨cl5, Ar5, q5, S_5, N_5, H5, G5⟩ := V1
  have hin5 : ¬ ((0 : Int32) < 0 ∨ cl5.slots.size ≤ ((0 : Int32)).toNatClampNeg) := inb_of S_5 ⟨by decide, by decide⟩
  have c6 : Exa Z h1 v_VENAL "com/example/runehall/runehall/tavern/Hero" := (Ev_VENAL.ext E1)
  obtain ⟨T7, h7, X7, e7, W7, st7⟩ := stR X4 hx hZ e4 Ar5 (j := (0 : Int32)) hin5 rfl (Sto.ofV Ar5 q5 O1 (Ins.self c6)) (g := (mkF m 10 #[.val (.int p0), .unset] [(.ref v_VENAL), (.int (0 : Int32)), (.ref b1), (.ref b1)])) rfl rfl (hb hby d1_10)
  have K8 : Keep h0 h7 [] := K2.wr W7 (Or.inr sz_b1)
  have c9 : Arv Z h7 b1 k1 (.object "com/example/runehall/runehall/tavern/Hero") (17 : Int32) [(.ref v_VENAL), .null, .null, .null, .null, .null, .null, .null, .null, .null, .null, .null, .null, .null, .null, .null, .null] .null := Arv.set Ar5 q5 S_5 N_5 H5 G5 rfl W7 0 rfl (Nat.le_of_ble_eq_true rfl)
  have N10 := Fr.snoc X7 N0 ge_b1
  have c11 : Sta Z h7 "com/example/runehall/runehall/tavern/Hero" "DEADLY" "Lcom/example/runehall/runehall/tavern/Hero;" (.ref v_DEADLY) := ((Sv_DEADLY.ext E1).wr W7)
  obtain ⟨T12, X12, e12, st12⟩ := getS2 X7 hx hZ hown (host := "") (Or.inl (hw _ (List.mem_of_getElem? (i := 11) rfl))) Via.refl e7 c11 (g := (mkF m 13 #[.val (.int p0), .unset] [(.int (1 : Int32)), (.ref b1), (.ref b1)])) rfl (hb hby d1_13)
  obtain ⟨cl13, Ar13, q13, S_13, N_13, H13, G13⟩ := c9
  have hin13 : ¬ ((1 : Int32) < 0 ∨ cl13.slots.size ≤ ((1 : Int32)).toNatClampNeg) := inb_of S_13 ⟨by decide, by decide⟩
  have c14 : Exa Z h7 v_DEADLY "com/example/runehall/runehall/tavern/Hero" := ((Ev_DEADLY.ext E1).wr W7)
  obtain ⟨T15, h15, X15, e15, W15, st15⟩ := stR X12 hx hZ e12 Ar13 (j := (1 : Int32)) hin13 rfl (Sto.ofV Ar13 q13 O1 (Ins.self c14)) (g := (mkF m 16 #[.val (.int p0), .unset] [(.ref v_DEADLY), (.int (1 : Int32)), (.ref b1), (.ref b1)])) rfl rfl (hb hby d1_16)
  have K16 : Keep h0 h15 [] := K8.wr W15 (Or.inr sz_b1)
  have c17 : Arv Z h15 b1 k1 (.object "com/example/runehall/runehall/tavern/Hero") (17 : Int32) [(.ref v_VENAL), (.ref v_DEADLY), .null, .null, .null, .null, .null, .null, .null, .null, .null, .null, .null, .null, .null, .null, .null] .null := Arv.set Ar13 q13 S_13 N_13 H13 G13 rfl W15 1 rfl (Nat.le_of_ble_eq_true rfl)
  have N18 := Fr.snoc X15 N10 ge_b1
  have c19 : Sta Z h15 "com/example/runehall/runehall/tavern/Hero" "EAGLE_EYE" "Lcom/example/runehall/runehall/tavern/Hero;" (.ref v_EAGLE_EYE) := (((Sv_EAGLE_EYE.ext E1).wr W7).wr W15)
  obtain ⟨T20, X20, e20, st20⟩ := getS2 X15 hx hZ hown (host := "") (Or.inl (hw _ (List.mem_of_getElem? (i := 13) rfl))) Via.refl e15 c19 (g := (mkF m 19 #[.val (.int p0), .unset] [(.int (2 : Int32)), (.ref b1), (.ref b1)])) rfl (hb hby d1_19)
  obtain ⟨cl21, Ar21, q21, S_21, N_21, H21, G21⟩ := c17
  have hin21 : ¬ ((2 : Int32) < 0 ∨ cl21.slots.size ≤ ((2 : Int32)).toNatClampNeg) := inb_of S_21 ⟨by decide, by decide⟩
  have c22 : Exa Z h15 v_EAGLE_EYE "com/example/runehall/runehall/tavern/Hero" := (((Ev_EAGLE_EYE.ext E1).wr W7).wr W15)
  obtain ⟨T23, h23, X23, e23, W23, st23⟩ := stR X20 hx hZ e20 Ar21 (j := (2 : Int32)) hin21 rfl (Sto.ofV Ar21 q21 O1 (Ins.self c22)) (g := (mkF m 22 #[.val (.int p0), .unset] [(.ref v_EAGLE_EYE), (.int (2 : Int32)), (.ref b1), (.ref b1)])) rfl rfl (hb hby d1_22)
  have K24 : Keep h0 h23 [] := K16.wr W23 (Or.inr sz_b1)
  have c25 : Arv Z h23 b1 k1 (.object "com/example/runehall/runehall/tavern/Hero") (17 : Int32) [(.ref v_VENAL), (.ref v_DEADLY), (.ref v_EAGLE_EYE), .null, .null, .null, .null, .null, .null, .null, .null, .null, .null, .null, .null, .null, .null] .null := Arv.set Ar21 q21 S_21 N_21 H21 G21 rfl W23 2 rfl (Nat.le_of_ble_eq_true rfl)
  have N26 := Fr.snoc X23 N18 ge_b1
  have c27 : Sta Z h23 "com/example/runehall/runehall/tavern/Hero" "EXPLOSIVE" "Lcom/example/runehall/runehall/tavern/Hero;" (.ref v_EXPLOSIVE) := ((((Sv_EXPLOSIVE.ext E1).wr W7).wr W15).wr W23)
  obtain ⟨T28, X28, e28, st28⟩ := getS2 X23 hx hZ hown (host := "") (Or.inl (hw _ (List.mem_of_getElem? (i := 15) rfl))) Via.refl e23 c27 (g := (mkF m 25 #[.val (.int p0), .unset] [(.int (3 : Int32)), (.ref b1), (.ref b1)])) rfl (hb hby d1_25)
  obtain ⟨cl29, Ar29, q29, S_29, N_29, H29, G29⟩ := c25
  have hin29 : ¬ ((3 : Int32) < 0 ∨ cl29.slots.size ≤ ((3 : Int32)).toNatClampNeg) := inb_of S_29 ⟨by decide, by decide⟩
  have c30 : Exa Z h23 v_EXPLOSIVE "com/example/runehall/runehall/tavern/Hero" := ((((Ev_EXPLOSIVE.ext E1).wr W7).wr W15).wr W23)
  obtain ⟨T31, h31, X31, e31, W31, st31⟩ := stR X28 hx hZ e28 Ar29 (j := (3 : Int32)) hin29 rfl (Sto.ofV Ar29 q29 O1 (Ins.self c30)) (g := (mkF m 28 #[.val (.int p0), .unset] [(.ref v_EXPLOSIVE), (.int (3 : Int32)), (.ref b1), (.ref b1)])) rfl rfl (hb hby d1_28)
  have K32 : Keep h0 h31 [] := K24.wr W31 (Or.inr sz_b1)
  have c33 : Arv Z h31 b1 k1 (.object "com/example/runehall/runehall/tavern/Hero") (17 : Int32) [(.ref v_VENAL), (.ref v_DEADLY), (.ref v_EAGLE_EYE), (.ref v_EXPLOSIVE), .null, .null, .null, .null, .null, .null, .null, .null, .null, .null, .null, .null, .null] .null := Arv.set Ar29 q29 S_29 N_29 H29 G29 rfl W31 3 rfl (Nat.le_of_ble_eq_true rfl)
  have N34 := Fr.snoc X31 N26 ge_b1
  have c35 : Sta Z h31 "com/example/runehall/runehall/tavern/Hero" "STEEL_FIST" "Lcom/example/runehall/runehall/tavern/Hero;" (.ref v_STEEL_FIST) := (((((Sv_STEEL_FIST.ext E1).wr W7).wr W15).wr W23).wr W31)
  obtain ⟨T36, X36, e36, st36⟩ := getS2 X31 hx hZ hown (host := "") (Or.inl (hw _ (List.mem_of_getElem? (i := 17) rfl))) Via.refl e31 c35 (g := (mkF m 31 #[.val (.int p0), .unset] [(.int (4 : Int32)), (.ref b1), (.ref b1)])) rfl (hb hby d1_31)
  obtain ⟨cl37, Ar37, q37, S_37, N_37, H37, G37⟩ := c33
  have hin37 : ¬ ((4 : Int32) < 0 ∨ cl37.slots.size ≤ ((4 : Int32)).toNatClampNeg) := inb_of S_37 ⟨by decide, by decide⟩
  have c38 : Exa Z h31 v_STEEL_FIST "com/example/runehall/runehall/tavern/Hero" := (((((Ev_STEEL_FIST.ext E1).wr W7).wr W15).wr W23).wr W31)
  obtain ⟨T39, h39, X39, e39, W39, st39⟩ := stR X36 hx hZ e36 Ar37 (j := (4 : Int32)) hin37 rfl (Sto.ofV Ar37 q37 O1 (Ins.self c38)) (g := (mkF m 34 #[.val (.int p0), .unset] [(.ref v_STEEL_FIST), (.int (4 : Int32)), (.ref b1), (.ref b1)])) rfl rfl (hb hby d1_34)
  have K40 : Keep h0 h39 [] := K32.wr W39 (Or.inr sz_b1)
  have c41 : Arv Z h39 b1 k1 (.object "com/example/runehall/runehall/tavern/Hero") (17 : Int32) [(.ref v_VENAL), (.ref v_DEADLY), (.ref v_EAGLE_EYE), (.ref v_EXPLOSIVE), (.ref v_STEEL_FIST), .null, .null, .null, .null, .null, .null, .null, .null, .null, .null, .null, .null] .null := Arv.set Ar37 q37 S_37 N_37 H37 G37 rfl W39 4 rfl (Nat.le_of_ble_eq_true rfl)
  have N42 := Fr.snoc X39 N34 ge_b1
  have c43 : Sta Z h39 "com/example/runehall/runehall/tavern/Hero" "TYRANT" "Lcom/example/runehall/runehall/tavern/Hero;" (.ref v_TYRANT) := ((((((Sv_TYRANT.ext E1).wr W7).wr W15).wr W23).wr W31).wr W39)
  obtain ⟨T44, X44, e44, st44⟩ := getS2 X39 hx hZ hown (host := "") (Or.inl (hw _ (List.mem_of_getElem? (i := 19) rfl))) Via.refl e39 c43 (g := (mkF m 37 #[.val (.int p0), .unset] [(.int (5 : Int32)), (.ref b1), (.ref b1)])) rfl (hb hby d1_37)
  obtain ⟨cl45, Ar45, q45, S_45, N_45, H45, G45⟩ := c41
  have hin45 : ¬ ((5 : Int32) < 0 ∨ cl45.slots.size ≤ ((5 : Int32)).toNatClampNeg) := inb_of S_45 ⟨by decide, by decide⟩
  have c46 : Exa Z h39 v_TYRANT "com/example/runehall/runehall/tavern/Hero" := ((((((Ev_TYRANT.ext E1).wr W7).wr W15).wr W23).wr W31).wr W39)
  obtain ⟨T47, h47, X47, e47, W47, st47⟩ := stR X44 hx hZ e44 Ar45 (j := (5 : Int32)) hin45 rfl (Sto.ofV Ar45 q45 O1 (Ins.self c46)) (g := (mkF m 40 #[.val (.int p0), .unset] [(.ref v_TYRANT), (.int (5 : Int32)), (.ref b1), (.ref b1)])) rfl rfl (hb hby d1_40)
  have K48 : Keep h0 h47 [] := K40.wr W47 (Or.inr sz_b1)
  have c49 : Arv Z h47 b1 k1 (.object "com/example/runehall/runehall/tavern/Hero") (17 : Int32) [(.ref v_VENAL), (.ref v_DEADLY), (.ref v_EAGLE_EYE), (.ref v_EXPLOSIVE), (.ref v_STEEL_FIST), (.ref v_TYRANT), .null, .null, .null, .null, .null, .null, .null, .null, .null, .null, .null] .null := Arv.set Ar45 q45 S_45 N_45 H45 G45 rfl W47 5 rfl (Nat.le_of_ble_eq_true rfl)
  have N50 := Fr.snoc X47 N42 ge_b1
  have c51 : Sta Z h47 "com/example/runehall/runehall/tavern/Hero" "FOREMAN" "Lcom/example/runehall/runehall/tavern/Hero;" (.ref v_FOREMAN) := (((((((Sv_FOREMAN.ext E1).wr W7).wr W15).wr W23).wr W31).wr W39).wr W47)
  obtain ⟨T52, X52, e52, st52⟩ := getS2 X47 hx hZ hown (host := "") (Or.inl (hw _ (List.mem_of_getElem? (i := 21) rfl))) Via.refl e47 c51 (g := (mkF m 44 #[.val (.int p0), .unset] [(.int (6 : Int32)), (.ref b1), (.ref b1)])) rfl (hb hby d1_44)
  obtain ⟨cl53, Ar53, q53, S_53, N_53, H53, G53⟩ := c49
  have hin53 : ¬ ((6 : Int32) < 0 ∨ cl53.slots.size ≤ ((6 : Int32)).toNatClampNeg) := inb_of S_53 ⟨by decide, by decide⟩
  have c54 : Exa Z h47 v_FOREMAN "com/example/runehall/runehall/tavern/Hero" := (((((((Ev_FOREMAN.ext E1).wr W7).wr W15).wr W23).wr W31).wr W39).wr W47)
  obtain ⟨T55, h55, X55, e55, W55, st55⟩ := stR X52 hx hZ e52 Ar53 (j := (6 : Int32)) hin53 rfl (Sto.ofV Ar53 q53 O1 (Ins.self c54)) (g := (mkF m 47 #[.val (.int p0), .unset] [(.ref v_FOREMAN), (.int (6 : Int32)), (.ref b1), (.ref b1)])) rfl rfl (hb hby d1_47)
  have K56 : Keep h0 h55 [] := K48.wr W55 (Or.inr sz_b1)
  have c57 : Arv Z h55 b1 k1 (.object "com/example/runehall/runehall/tavern/Hero") (17 : Int32) [(.ref v_VENAL), (.ref v_DEADLY), (.ref v_EAGLE_EYE), (.ref v_EXPLOSIVE), (.ref v_STEEL_FIST), (.ref v_TYRANT), (.ref v_FOREMAN), .null, .null, .null, .null, .null, .null, .null, .null, .null, .null] .null := Arv.set Ar53 q53 S_53 N_53 H53 G53 rfl W55 6 rfl (Nat.le_of_ble_eq_true rfl)
  have N58 := Fr.snoc X55 N50 ge_b1
  have c59 : Sta Z h55 "com/example/runehall/runehall/tavern/Hero" "GREEDY" "Lcom/example/runehall/runehall/tavern/Hero;" (.ref v_GREEDY) := ((((((((Sv_GREEDY.ext E1).wr W7).wr W15).wr W23).wr W31).wr W39).wr W47).wr W55)
  obtain ⟨T60, X60, e60, st60⟩ := getS2 X55 hx hZ hown (host := "") (Or.inl (hw _ (List.mem_of_getElem? (i := 23) rfl))) Via.refl e55 c59 (g := (mkF m 51 #[.val (.int p0), .unset] [(.int (7 : Int32)), (.ref b1), (.ref b1)])) rfl (hb hby d1_51)
  obtain ⟨cl61, Ar61, q61, S_61, N_61, H61, G61⟩ := c57
  have hin61 : ¬ ((7 : Int32) < 0 ∨ cl61.slots.size ≤ ((7 : Int32)).toNatClampNeg) := inb_of S_61 ⟨by decide, by decide⟩
  have c62 : Exa Z h55 v_GREEDY "com/example/runehall/runehall/tavern/Hero" := ((((((((Ev_GREEDY.ext E1).wr W7).wr W15).wr W23).wr W31).wr W39).wr W47).wr W55)
  obtain ⟨T63, h63, X63, e63, W63, st63⟩ := stR X60 hx hZ e60 Ar61 (j := (7 : Int32)) hin61 rfl (Sto.ofV Ar61 q61 O1 (Ins.self c62)) (g := (mkF m 54 #[.val (.int p0), .unset] [(.ref v_GREEDY), (.int (7 : Int32)), (.ref b1), (.ref b1)])) rfl rfl (hb hby d1_54)
  have K64 : Keep h0 h63 [] := K56.wr W63 (Or.inr sz_b1)
  have c65 : Arv Z h63 b1 k1 (.object "com/example/runehall/runehall/tavern/Hero") (17 : Int32) [(.ref v_VENAL), (.ref v_DEADLY), (.ref v_EAGLE_EYE), (.ref v_EXPLOSIVE), (.ref v_STEEL_FIST), (.ref v_TYRANT), (.ref v_FOREMAN), (.ref v_GREEDY), .null, .null, .null, .null, .null, .null, .null, .null, .null] .null := Arv.set Ar61 q61 S_61 N_61 H61 G61 rfl W63 7 rfl (Nat.le_of_ble_eq_true rfl)
  have N66 := Fr.snoc X63 N58 ge_b1
  have c67 : Sta Z h63 "com/example/runehall/runehall/tavern/Hero" "ELUSIVE" "Lcom/example/runehall/runehall/tavern/Hero;" (.ref v_ELUSIVE) := (((((((((Sv_ELUSIVE.ext E1).wr W7).wr W15).wr W23).wr W31).wr W39).wr W47).wr W55).wr W63)
  obtain ⟨T68, X68, e68, st68⟩ := getS2 X63 hx hZ hown (host := "") (Or.inl (hw _ (List.mem_of_getElem? (i := 25) rfl))) Via.refl e63 c67 (g := (mkF m 58 #[.val (.int p0), .unset] [(.int (8 : Int32)), (.ref b1), (.ref b1)])) rfl (hb hby d1_58)
  obtain ⟨cl69, Ar69, q69, S_69, N_69, H69, G69⟩ := c65
  have hin69 : ¬ ((8 : Int32) < 0 ∨ cl69.slots.size ≤ ((8 : Int32)).toNatClampNeg) := inb_of S_69 ⟨by decide, by decide⟩
  have c70 : Exa Z h63 v_ELUSIVE "com/example/runehall/runehall/tavern/Hero" := (((((((((Ev_ELUSIVE.ext E1).wr W7).wr W15).wr W23).wr W31).wr W39).wr W47).wr W55).wr W63)
  obtain ⟨T71, h71, X71, e71, W71, st71⟩ := stR X68 hx hZ e68 Ar69 (j := (8 : Int32)) hin69 rfl (Sto.ofV Ar69 q69 O1 (Ins.self c70)) (g := (mkF m 61 #[.val (.int p0), .unset] [(.ref v_ELUSIVE), (.int (8 : Int32)), (.ref b1), (.ref b1)])) rfl rfl (hb hby d1_61)
  have K72 : Keep h0 h71 [] := K64.wr W71 (Or.inr sz_b1)
  have c73 : Arv Z h71 b1 k1 (.object "com/example/runehall/runehall/tavern/Hero") (17 : Int32) [(.ref v_VENAL), (.ref v_DEADLY), (.ref v_EAGLE_EYE), (.ref v_EXPLOSIVE), (.ref v_STEEL_FIST), (.ref v_TYRANT), (.ref v_FOREMAN), (.ref v_GREEDY), (.ref v_ELUSIVE), .null, .null, .null, .null, .null, .null, .null, .null] .null := Arv.set Ar69 q69 S_69 N_69 H69 G69 rfl W71 8 rfl (Nat.le_of_ble_eq_true rfl)
  have N74 := Fr.snoc X71 N66 ge_b1
  have c75 : Sta Z h71 "com/example/runehall/runehall/tavern/Hero" "STEALTHY" "Lcom/example/runehall/runehall/tavern/Hero;" (.ref v_STEALTHY) := ((((((((((Sv_STEALTHY.ext E1).wr W7).wr W15).wr W23).wr W31).wr W39).wr W47).wr W55).wr W63).wr W71)
  obtain ⟨T76, X76, e76, st76⟩ := getS2 X71 hx hZ hown (host := "") (Or.inl (hw _ (List.mem_of_getElem? (i := 27) rfl))) Via.refl e71 c75 (g := (mkF m 65 #[.val (.int p0), .unset] [(.int (9 : Int32)), (.ref b1), (.ref b1)])) rfl (hb hby d1_65)
  obtain ⟨cl77, Ar77, q77, S_77, N_77, H77, G77⟩ := c73
  have hin77 : ¬ ((9 : Int32) < 0 ∨ cl77.slots.size ≤ ((9 : Int32)).toNatClampNeg) := inb_of S_77 ⟨by decide, by decide⟩
  have c78 : Exa Z h71 v_STEALTHY "com/example/runehall/runehall/tavern/Hero" := ((((((((((Ev_STEALTHY.ext E1).wr W7).wr W15).wr W23).wr W31).wr W39).wr W47).wr W55).wr W63).wr W71)
  obtain ⟨T79, h79, X79, e79, W79, st79⟩ := stR X76 hx hZ e76 Ar77 (j := (9 : Int32)) hin77 rfl (Sto.ofV Ar77 q77 O1 (Ins.self c78)) (g := (mkF m 68 #[.val (.int p0), .unset] [(.ref v_STEALTHY), (.int (9 : Int32)), (.ref b1), (.ref b1)])) rfl rfl (hb hby d1_68)
  have K80 : Keep h0 h79 [] := K72.wr W79 (Or.inr sz_b1)
  have c81 : Arv Z h79 b1 k1 (.object "com/example/runehall/runehall/tavern/Hero") (17 : Int32) [(.ref v_VENAL), (.ref v_DEADLY), (.ref v_EAGLE_EYE), (.ref v_EXPLOSIVE), (.ref v_STEEL_FIST), (.ref v_TYRANT), (.ref v_FOREMAN), (.ref v_GREEDY), (.ref v_ELUSIVE), (.ref v_STEALTHY), .null, .null, .null, .null, .null, .null, .null] .null := Arv.set Ar77 q77 S_77 N_77 H77 G77 rfl W79 9 rfl (Nat.le_of_ble_eq_true rfl)
  have N82 := Fr.snoc X79 N74 ge_b1
  have c83 : Sta Z h79 "com/example/runehall/runehall/tavern/Hero" "UNPREDICTABLE" "Lcom/example/runehall/runehall/tavern/Hero;" (.ref v_UNPREDICTABLE) := (((((((((((Sv_UNPREDICTABLE.ext E1).wr W7).wr W15).wr W23).wr W31).wr W39).wr W47).wr W55).wr W63).wr W71).wr W79)
  obtain ⟨T84, X84, e84, st84⟩ := getS2 X79 hx hZ hown (host := "") (Or.inl (hw _ (List.mem_of_getElem? (i := 29) rfl))) Via.refl e79 c83 (g := (mkF m 72 #[.val (.int p0), .unset] [(.int (10 : Int32)), (.ref b1), (.ref b1)])) rfl (hb hby d1_72)
  obtain ⟨cl85, Ar85, q85, S_85, N_85, H85, G85⟩ := c81
  have hin85 : ¬ ((10 : Int32) < 0 ∨ cl85.slots.size ≤ ((10 : Int32)).toNatClampNeg) := inb_of S_85 ⟨by decide, by decide⟩
  have c86 : Exa Z h79 v_UNPREDICTABLE "com/example/runehall/runehall/tavern/Hero" := (((((((((((Ev_UNPREDICTABLE.ext E1).wr W7).wr W15).wr W23).wr W31).wr W39).wr W47).wr W55).wr W63).wr W71).wr W79)
  obtain ⟨T87, h87, X87, e87, W87, st87⟩ := stR X84 hx hZ e84 Ar85 (j := (10 : Int32)) hin85 rfl (Sto.ofV Ar85 q85 O1 (Ins.self c86)) (g := (mkF m 75 #[.val (.int p0), .unset] [(.ref v_UNPREDICTABLE), (.int (10 : Int32)), (.ref b1), (.ref b1)])) rfl rfl (hb hby d1_75)
  have K88 : Keep h0 h87 [] := K80.wr W87 (Or.inr sz_b1)
  have c89 : Arv Z h87 b1 k1 (.object "com/example/runehall/runehall/tavern/Hero") (17 : Int32) [(.ref v_VENAL), (.ref v_DEADLY), (.ref v_EAGLE_EYE), (.ref v_EXPLOSIVE), (.ref v_STEEL_FIST), (.ref v_TYRANT), (.ref v_FOREMAN), (.ref v_GREEDY), (.ref v_ELUSIVE), (.ref v_STEALTHY), (.ref v_UNPREDICTABLE), .null, .null, .null, .null, .null, .null] .null := Arv.set Ar85 q85 S_85 N_85 H85 G85 rfl W87 10 rfl (Nat.le_of_ble_eq_true rfl)
  have N90 := Fr.snoc X87 N82 ge_b1
  have c91 : Sta Z h87 "com/example/runehall/runehall/tavern/Hero" "BROTHER" "Lcom/example/runehall/runehall/tavern/Hero;" (.ref v_BROTHER) := ((((((((((((Sv_BROTHER.ext E1).wr W7).wr W15).wr W23).wr W31).wr W39).wr W47).wr W55).wr W63).wr W71).wr W79).wr W87)
  obtain ⟨T92, X92, e92, st92⟩ := getS2 X87 hx hZ hown (host := "") (Or.inl (hw _ (List.mem_of_getElem? (i := 31) rfl))) Via.refl e87 c91 (g := (mkF m 79 #[.val (.int p0), .unset] [(.int (11 : Int32)), (.ref b1), (.ref b1)])) rfl (hb hby d1_79)
  obtain ⟨cl93, Ar93, q93, S_93, N_93, H93, G93⟩ := c89
  have hin93 : ¬ ((11 : Int32) < 0 ∨ cl93.slots.size ≤ ((11 : Int32)).toNatClampNeg) := inb_of S_93 ⟨by decide, by decide⟩
  have c94 : Exa Z h87 v_BROTHER "com/example/runehall/runehall/tavern/Hero" := ((((((((((((Ev_BROTHER.ext E1).wr W7).wr W15).wr W23).wr W31).wr W39).wr W47).wr W55).wr W63).wr W71).wr W79).wr W87)
  obtain ⟨T95, h95, X95, e95, W95, st95⟩ := stR X92 hx hZ e92 Ar93 (j := (11 : Int32)) hin93 rfl (Sto.ofV Ar93 q93 O1 (Ins.self c94)) (g := (mkF m 82 #[.val (.int p0), .unset] [(.ref v_BROTHER), (.int (11 : Int32)), (.ref b1), (.ref b1)])) rfl rfl (hb hby d1_82)
  have K96 : Keep h0 h95 [] := K88.wr W95 (Or.inr sz_b1)
  have c97 : Arv Z h95 b1 k1 (.object "com/example/runehall/runehall/tavern/Hero") (17 : Int32) [(.ref v_VENAL), (.ref v_DEADLY), (.ref v_EAGLE_EYE), (.ref v_EXPLOSIVE), (.ref v_STEEL_FIST), (.ref v_TYRANT), (.ref v_FOREMAN), (.ref v_GREEDY), (.ref v_ELUSIVE), (.ref v_STEALTHY), (.ref v_UNPREDICTABLE), (.ref v_BROTHER), .null, .null, .null, .null, .null] .null := Arv.set Ar93 q93 S_93 N_93 H93 G93 rfl W95 11 rfl (Nat.le_of_ble_eq_true rfl)
  have N98 := Fr.snoc X95 N90 ge_b1
  have c99 : Sta Z h95 "com/example/runehall/runehall/tavern/Hero" "UNFATHOMABLE" "Lcom/example/runehall/runehall/tavern/Hero;" (.ref v_UNFATHOMABLE) := (((((((((((((Sv_UNFATHOMABLE.ext E1).wr W7).wr W15).wr W23).wr W31).wr W39).wr W47).wr W55).wr W63).wr W71).wr W79).wr W87).wr W95)
  obtain ⟨T100, X100, e100, st100⟩ := getS2 X95 hx hZ hown (host := "") (Or.inl (hw _ (List.mem_of_getElem? (i := 33) rfl))) Via.refl e95 c99 (g := (mkF m 86 #[.val (.int p0), .unset] [(.int (12 : Int32)), (.ref b1), (.ref b1)])) rfl (hb hby d1_86)
  obtain ⟨cl101, Ar101, q101, S_101, N_101, H101, G101⟩ := c97
  have hin101 : ¬ ((12 : Int32) < 0 ∨ cl101.slots.size ≤ ((12 : Int32)).toNatClampNeg) := inb_of S_101 ⟨by decide, by decide⟩
  have c102 : Exa Z h95 v_UNFATHOMABLE "com/example/runehall/runehall/tavern/Hero" := (((((((((((((Ev_UNFATHOMABLE.ext E1).wr W7).wr W15).wr W23).wr W31).wr W39).wr W47).wr W55).wr W63).wr W71).wr W79).wr W87).wr W95)
  obtain ⟨T103, h103, X103, e103, W103, st103⟩ := stR X100 hx hZ e100 Ar101 (j := (12 : Int32)) hin101 rfl (Sto.ofV Ar101 q101 O1 (Ins.self c102)) (g := (mkF m 89 #[.val (.int p0), .unset] [(.ref v_UNFATHOMABLE), (.int (12 : Int32)), (.ref b1), (.ref b1)])) rfl rfl (hb hby d1_89)
  have K104 : Keep h0 h103 [] := K96.wr W103 (Or.inr sz_b1)
  have c105 : Arv Z h103 b1 k1 (.object "com/example/runehall/runehall/tavern/Hero") (17 : Int32) [(.ref v_VENAL), (.ref v_DEADLY), (.ref v_EAGLE_EYE), (.ref v_EXPLOSIVE), (.ref v_STEEL_FIST), (.ref v_TYRANT), (.ref v_FOREMAN), (.ref v_GREEDY), (.ref v_ELUSIVE), (.ref v_STEALTHY), (.ref v_UNPREDICTABLE), (.ref v_BROTHER), (.ref v_UNFATHOMABLE), .null, .null, .null, .null] .null := Arv.set Ar101 q101 S_101 N_101 H101 G101 rfl W103 12 rfl (Nat.le_of_ble_eq_true rfl)
  have N106 := Fr.snoc X103 N98 ge_b1
  have c107 : Sta Z h103 "com/example/runehall/runehall/tavern/Hero" "FORTUNATE" "Lcom/example/runehall/runehall/tavern/Hero;" (.ref v_FORTUNATE) := ((((((((((((((Sv_FORTUNATE.ext E1).wr W7).wr W15).wr W23).wr W31).wr W39).wr W47).wr W55).wr W63).wr W71).wr W79).wr W87).wr W95).wr W103)
  obtain ⟨T108, X108, e108, st108⟩ := getS2 X103 hx hZ hown (host := "") (Or.inl (hw _ (List.mem_of_getElem? (i := 35) rfl))) Via.refl e103 c107 (g := (mkF m 93 #[.val (.int p0), .unset] [(.int (13 : Int32)), (.ref b1), (.ref b1)])) rfl (hb hby d1_93)
  obtain ⟨cl109, Ar109, q109, S_109, N_109, H109, G109⟩ := c105
  have hin109 : ¬ ((13 : Int32) < 0 ∨ cl109.slots.size ≤ ((13 : Int32)).toNatClampNeg) := inb_of S_109 ⟨by decide, by decide⟩
  have c110 : Exa Z h103 v_FORTUNATE "com/example/runehall/runehall/tavern/Hero" := ((((((((((((((Ev_FORTUNATE.ext E1).wr W7).wr W15).wr W23).wr W31).wr W39).wr W47).wr W55).wr W63).wr W71).wr W79).wr W87).wr W95).wr W103)
  obtain ⟨T111, h111, X111, e111, W111, st111⟩ := stR X108 hx hZ e108 Ar109 (j := (13 : Int32)) hin109 rfl (Sto.ofV Ar109 q109 O1 (Ins.self c110)) (g := (mkF m 96 #[.val (.int p0), .unset] [(.ref v_FORTUNATE), (.int (13 : Int32)), (.ref b1), (.ref b1)])) rfl rfl (hb hby d1_96)
  have K112 : Keep h0 h111 [] := K104.wr W111 (Or.inr sz_b1)
  have c113 : Arv Z h111 b1 k1 (.object "com/example/runehall/runehall/tavern/Hero") (17 : Int32) [(.ref v_VENAL), (.ref v_DEADLY), (.ref v_EAGLE_EYE), (.ref v_EXPLOSIVE), (.ref v_STEEL_FIST), (.ref v_TYRANT), (.ref v_FOREMAN), (.ref v_GREEDY), (.ref v_ELUSIVE), (.ref v_STEALTHY), (.ref v_UNPREDICTABLE), (.ref v_BROTHER), (.ref v_UNFATHOMABLE), (.ref v_FORTUNATE), .null, .null, .null] .null := Arv.set Ar109 q109 S_109 N_109 H109 G109 rfl W111 13 rfl (Nat.le_of_ble_eq_true rfl)
  have N114 := Fr.snoc X111 N106 ge_b1
  have c115 : Sta Z h111 "com/example/runehall/runehall/tavern/Hero" "MERCHANT" "Lcom/example/runehall/runehall/tavern/Hero;" (.ref v_MERCHANT) := (((((((((((((((Sv_MERCHANT.ext E1).wr W7).wr W15).wr W23).wr W31).wr W39).wr W47).wr W55).wr W63).wr W71).wr W79).wr W87).wr W95).wr W103).wr W111)
  obtain ⟨T116, X116, e116, st116⟩ := getS2 X111 hx hZ hown (host := "") (Or.inl (hw _ (List.mem_of_getElem? (i := 37) rfl))) Via.refl e111 c115 (g := (mkF m 100 #[.val (.int p0), .unset] [(.int (14 : Int32)), (.ref b1), (.ref b1)])) rfl (hb hby d1_100)
  obtain ⟨cl117, Ar117, q117, S_117, N_117, H117, G117⟩ := c113
  have hin117 : ¬ ((14 : Int32) < 0 ∨ cl117.slots.size ≤ ((14 : Int32)).toNatClampNeg) := inb_of S_117 ⟨by decide, by decide⟩
  have c118 : Exa Z h111 v_MERCHANT "com/example/runehall/runehall/tavern/Hero" := (((((((((((((((Ev_MERCHANT.ext E1).wr W7).wr W15).wr W23).wr W31).wr W39).wr W47).wr W55).wr W63).wr W71).wr W79).wr W87).wr W95).wr W103).wr W111)
  obtain ⟨T119, h119, X119, e119, W119, st119⟩ := stR X116 hx hZ e116 Ar117 (j := (14 : Int32)) hin117 rfl (Sto.ofV Ar117 q117 O1 (Ins.self c118)) (g := (mkF m 103 #[.val (.int p0), .unset] [(.ref v_MERCHANT), (.int (14 : Int32)), (.ref b1), (.ref b1)])) rfl rfl (hb hby d1_103)
  have K120 : Keep h0 h119 [] := K112.wr W119 (Or.inr sz_b1)
  have c121 : Arv Z h119 b1 k1 (.object "com/example/runehall/runehall/tavern/Hero") (17 : Int32) [(.ref v_VENAL), (.ref v_DEADLY), (.ref v_EAGLE_EYE), (.ref v_EXPLOSIVE), (.ref v_STEEL_FIST), (.ref v_TYRANT), (.ref v_FOREMAN), (.ref v_GREEDY), (.ref v_ELUSIVE), (.ref v_STEALTHY), (.ref v_UNPREDICTABLE), (.ref v_BROTHER), (.ref v_UNFATHOMABLE), (.ref v_FORTUNATE), (.ref v_MERCHANT), .null, .null] .null := Arv.set Ar117 q117 S_117 N_117 H117 G117 rfl W119 14 rfl (Nat.le_of_ble_eq_true rfl)
  have N122 := Fr.snoc X119 N114 ge_b1
  have c123 : Sta Z h119 "com/example/runehall/runehall/tavern/Hero" "SEER" "Lcom/example/runehall/runehall/tavern/Hero;" (.ref v_SEER) := ((((((((((((((((Sv_SEER.ext E1).wr W7).wr W15).wr W23).wr W31).wr W39).wr W47).wr W55).wr W63).wr W71).wr W79).wr W87).wr W95).wr W103).wr W111).wr W119)
  obtain ⟨T124, X124, e124, st124⟩ := getS2 X119 hx hZ hown (host := "") (Or.inl (hw _ (List.mem_of_getElem? (i := 39) rfl))) Via.refl e119 c123 (g := (mkF m 107 #[.val (.int p0), .unset] [(.int (15 : Int32)), (.ref b1), (.ref b1)])) rfl (hb hby d1_107)
  obtain ⟨cl125, Ar125, q125, S_125, N_125, H125, G125⟩ := c121
  have hin125 : ¬ ((15 : Int32) < 0 ∨ cl125.slots.size ≤ ((15 : Int32)).toNatClampNeg) := inb_of S_125 ⟨by decide, by decide⟩
  have c126 : Exa Z h119 v_SEER "com/example/runehall/runehall/tavern/Hero" := ((((((((((((((((Ev_SEER.ext E1).wr W7).wr W15).wr W23).wr W31).wr W39).wr W47).wr W55).wr W63).wr W71).wr W79).wr W87).wr W95).wr W103).wr W111).wr W119)
  obtain ⟨T127, h127, X127, e127, W127, st127⟩ := stR X124 hx hZ e124 Ar125 (j := (15 : Int32)) hin125 rfl (Sto.ofV Ar125 q125 O1 (Ins.self c126)) (g := (mkF m 110 #[.val (.int p0), .unset] [(.ref v_SEER), (.int (15 : Int32)), (.ref b1), (.ref b1)])) rfl rfl (hb hby d1_110)
  have K128 : Keep h0 h127 [] := K120.wr W127 (Or.inr sz_b1)
  have c129 : Arv Z h127 b1 k1 (.object "com/example/runehall/runehall/tavern/Hero") (17 : Int32) [(.ref v_VENAL), (.ref v_DEADLY), (.ref v_EAGLE_EYE), (.ref v_EXPLOSIVE), (.ref v_STEEL_FIST), (.ref v_TYRANT), (.ref v_FOREMAN), (.ref v_GREEDY), (.ref v_ELUSIVE), (.ref v_STEALTHY), (.ref v_UNPREDICTABLE), (.ref v_BROTHER), (.ref v_UNFATHOMABLE), (.ref v_FORTUNATE), (.ref v_MERCHANT), (.ref v_SEER), .null] .null := Arv.set Ar125 q125 S_125 N_125 H125 G125 rfl W127 15 rfl (Nat.le_of_ble_eq_true rfl)
  have N130 := Fr.snoc X127 N122 ge_b1
  have c131 : Sta Z h127 "com/example/runehall/runehall/tavern/Hero" "HEADHUNTER" "Lcom/example/runehall/runehall/tavern/Hero;" (.ref v_HEADHUNTER) := (((((((((((((((((Sv_HEADHUNTER.ext E1).wr W7).wr W15).wr W23).wr W31).wr W39).wr W47).wr W55).wr W63).wr W71).wr W79).wr W87).wr W95).wr W103).wr W111).wr W119).wr W127)
  obtain ⟨T132, X132, e132, st132⟩ := getS2 X127 hx hZ hown (host := "") (Or.inl (hw _ (List.mem_of_getElem? (i := 41) rfl))) Via.refl e127 c131 (g := (mkF m 114 #[.val (.int p0), .unset] [(.int (16 : Int32)), (.ref b1), (.ref b1)])) rfl (hb hby d1_114)
  obtain ⟨cl133, Ar133, q133, S_133, N_133, H133, G133⟩ := c129
  have hin133 : ¬ ((16 : Int32) < 0 ∨ cl133.slots.size ≤ ((16 : Int32)).toNatClampNeg) := inb_of S_133 ⟨by decide, by decide⟩
  have c134 : Exa Z h127 v_HEADHUNTER "com/example/runehall/runehall/tavern/Hero" := (((((((((((((((((Ev_HEADHUNTER.ext E1).wr W7).wr W15).wr W23).wr W31).wr W39).wr W47).wr W55).wr W63).wr W71).wr W79).wr W87).wr W95).wr W103).wr W111).wr W119).wr W127)
  obtain ⟨T135, h135, X135, e135, W135, st135⟩ := stR X132 hx hZ e132 Ar133 (j := (16 : Int32)) hin133 rfl (Sto.ofV Ar133 q133 O1 (Ins.self c134)) (g := (mkF m 117 #[.val (.int p0), .unset] [(.ref v_HEADHUNTER), (.int (16 : Int32)), (.ref b1), (.ref b1)])) rfl rfl (hb hby d1_117)
  have K136 : Keep h0 h135 [] := K128.wr W135 (Or.inr sz_b1)
  have c137 : Arv Z h135 b1 k1 (.object "com/example/runehall/runehall/tavern/Hero") (17 : Int32) [(.ref v_VENAL), (.ref v_DEADLY), (.ref v_EAGLE_EYE), (.ref v_EXPLOSIVE), (.ref v_STEEL_FIST), (.ref v_TYRANT), (.ref v_FOREMAN), (.ref v_GREEDY), (.ref v_ELUSIVE), (.ref v_STEALTHY), (.ref v_UNPREDICTABLE), (.ref v_BROTHER), (.ref v_UNFATHOMABLE), (.ref v_FORTUNATE), (.ref v_MERCHANT), (.ref v_SEER), (.ref v_HEADHUNTER)] .null := Arv.set Ar133 q133 S_133 N_133 H133 G133 rfl W135 16 rfl (Nat.le_of_ble_eq_true rfl)
  have N138 := Fr.snoc X135 N130 ge_b1
  have S139 : ∀ t, Steps p.tables e below (T135.setTop (mkF m 121 #[.val (.int p0), .val (.ref b1)] [(.int p0), (.ref b1)])) t → Steps p.tables e below (s₁.setTop (entryFrame m #[(.int p0)] 2)) t := by
    intro t kt
    refine pre0 _ ?_
    show Steps p.tables e below (s₁.setTop (mkF m 0 #[.val (.int p0), .unset] [])) _
    refine XS.bipush X0.here hx rfl (hb hby d1_0) ?_
    show Steps p.tables e below (s₁.setTop (mkF m 2 #[.val (.int p0), .unset] [(.int (17 : Int32))])) _
    refine st1 _ ?_
    show Steps p.tables e below (T1.setTop (mkF m 5 #[.val (.int p0), .unset] [(.ref b1)])) _
    refine XS.dup X1.here hx rfl (hb hby d1_5) rfl rfl ?_
    show Steps p.tables e below (T1.setTop (mkF m 6 #[.val (.int p0), .unset] [(.ref b1), (.ref b1)])) _
    refine XS.iconst X1.here hx rfl (hb hby d1_6) ?_
    show Steps p.tables e below (T1.setTop (mkF m 7 #[.val (.int p0), .unset] [(.int (0 : Int32)), (.ref b1), (.ref b1)])) _
    refine st4 _ ?_
    show Steps p.tables e below (T4.setTop (mkF m 10 #[.val (.int p0), .unset] [(.ref v_VENAL), (.int (0 : Int32)), (.ref b1), (.ref b1)])) _
    refine st7 _ ?_
    show Steps p.tables e below (T7.setTop (mkF m 11 #[.val (.int p0), .unset] [(.ref b1)])) _
    refine XS.dup X7.here hx rfl (hb hby d1_11) rfl rfl ?_
    show Steps p.tables e below (T7.setTop (mkF m 12 #[.val (.int p0), .unset] [(.ref b1), (.ref b1)])) _
    refine XS.iconst X7.here hx rfl (hb hby d1_12) ?_
    show Steps p.tables e below (T7.setTop (mkF m 13 #[.val (.int p0), .unset] [(.int (1 : Int32)), (.ref b1), (.ref b1)])) _
    refine st12 _ ?_
    show Steps p.tables e below (T12.setTop (mkF m 16 #[.val (.int p0), .unset] [(.ref v_DEADLY), (.int (1 : Int32)), (.ref b1), (.ref b1)])) _
    refine st15 _ ?_
    show Steps p.tables e below (T15.setTop (mkF m 17 #[.val (.int p0), .unset] [(.ref b1)])) _
    refine XS.dup X15.here hx rfl (hb hby d1_17) rfl rfl ?_
    show Steps p.tables e below (T15.setTop (mkF m 18 #[.val (.int p0), .unset] [(.ref b1), (.ref b1)])) _
    refine XS.iconst X15.here hx rfl (hb hby d1_18) ?_
    show Steps p.tables e below (T15.setTop (mkF m 19 #[.val (.int p0), .unset] [(.int (2 : Int32)), (.ref b1), (.ref b1)])) _
    refine st20 _ ?_
    show Steps p.tables e below (T20.setTop (mkF m 22 #[.val (.int p0), .unset] [(.ref v_EAGLE_EYE), (.int (2 : Int32)), (.ref b1), (.ref b1)])) _
    refine st23 _ ?_
    show Steps p.tables e below (T23.setTop (mkF m 23 #[.val (.int p0), .unset] [(.ref b1)])) _
    refine XS.dup X23.here hx rfl (hb hby d1_23) rfl rfl ?_
    show Steps p.tables e below (T23.setTop (mkF m 24 #[.val (.int p0), .unset] [(.ref b1), (.ref b1)])) _
    refine XS.iconst X23.here hx rfl (hb hby d1_24) ?_
    show Steps p.tables e below (T23.setTop (mkF m 25 #[.val (.int p0), .unset] [(.int (3 : Int32)), (.ref b1), (.ref b1)])) _
    refine st28 _ ?_
    show Steps p.tables e below (T28.setTop (mkF m 28 #[.val (.int p0), .unset] [(.ref v_EXPLOSIVE), (.int (3 : Int32)), (.ref b1), (.ref b1)])) _
    refine st31 _ ?_
    show Steps p.tables e below (T31.setTop (mkF m 29 #[.val (.int p0), .unset] [(.ref b1)])) _
    refine XS.dup X31.here hx rfl (hb hby d1_29) rfl rfl ?_
    show Steps p.tables e below (T31.setTop (mkF m 30 #[.val (.int p0), .unset] [(.ref b1), (.ref b1)])) _
    refine XS.iconst X31.here hx rfl (hb hby d1_30) ?_
    show Steps p.tables e below (T31.setTop (mkF m 31 #[.val (.int p0), .unset] [(.int (4 : Int32)), (.ref b1), (.ref b1)])) _
    refine st36 _ ?_
    show Steps p.tables e below (T36.setTop (mkF m 34 #[.val (.int p0), .unset] [(.ref v_STEEL_FIST), (.int (4 : Int32)), (.ref b1), (.ref b1)])) _
    refine st39 _ ?_
    show Steps p.tables e below (T39.setTop (mkF m 35 #[.val (.int p0), .unset] [(.ref b1)])) _
    refine XS.dup X39.here hx rfl (hb hby d1_35) rfl rfl ?_
    show Steps p.tables e below (T39.setTop (mkF m 36 #[.val (.int p0), .unset] [(.ref b1), (.ref b1)])) _
    refine XS.iconst X39.here hx rfl (hb hby d1_36) ?_
    show Steps p.tables e below (T39.setTop (mkF m 37 #[.val (.int p0), .unset] [(.int (5 : Int32)), (.ref b1), (.ref b1)])) _
    refine st44 _ ?_
    show Steps p.tables e below (T44.setTop (mkF m 40 #[.val (.int p0), .unset] [(.ref v_TYRANT), (.int (5 : Int32)), (.ref b1), (.ref b1)])) _
    refine st47 _ ?_
    show Steps p.tables e below (T47.setTop (mkF m 41 #[.val (.int p0), .unset] [(.ref b1)])) _
    refine XS.dup X47.here hx rfl (hb hby d1_41) rfl rfl ?_
    show Steps p.tables e below (T47.setTop (mkF m 42 #[.val (.int p0), .unset] [(.ref b1), (.ref b1)])) _
    refine XS.bipush X47.here hx rfl (hb hby d1_42) ?_
    show Steps p.tables e below (T47.setTop (mkF m 44 #[.val (.int p0), .unset] [(.int (6 : Int32)), (.ref b1), (.ref b1)])) _
    refine st52 _ ?_
    show Steps p.tables e below (T52.setTop (mkF m 47 #[.val (.int p0), .unset] [(.ref v_FOREMAN), (.int (6 : Int32)), (.ref b1), (.ref b1)])) _
    refine st55 _ ?_
    show Steps p.tables e below (T55.setTop (mkF m 48 #[.val (.int p0), .unset] [(.ref b1)])) _
    refine XS.dup X55.here hx rfl (hb hby d1_48) rfl rfl ?_
    show Steps p.tables e below (T55.setTop (mkF m 49 #[.val (.int p0), .unset] [(.ref b1), (.ref b1)])) _
    refine XS.bipush X55.here hx rfl (hb hby d1_49) ?_
    show Steps p.tables e below (T55.setTop (mkF m 51 #[.val (.int p0), .unset] [(.int (7 : Int32)), (.ref b1), (.ref b1)])) _
    refine st60 _ ?_
    show Steps p.tables e below (T60.setTop (mkF m 54 #[.val (.int p0), .unset] [(.ref v_GREEDY), (.int (7 : Int32)), (.ref b1), (.ref b1)])) _
    refine st63 _ ?_
    show Steps p.tables e below (T63.setTop (mkF m 55 #[.val (.int p0), .unset] [(.ref b1)])) _
    refine XS.dup X63.here hx rfl (hb hby d1_55) rfl rfl ?_
    show Steps p.tables e below (T63.setTop (mkF m 56 #[.val (.int p0), .unset] [(.ref b1), (.ref b1)])) _
    refine XS.bipush X63.here hx rfl (hb hby d1_56) ?_
    show Steps p.tables e below (T63.setTop (mkF m 58 #[.val (.int p0), .unset] [(.int (8 : Int32)), (.ref b1), (.ref b1)])) _
    refine st68 _ ?_
    show Steps p.tables e below (T68.setTop (mkF m 61 #[.val (.int p0), .unset] [(.ref v_ELUSIVE), (.int (8 : Int32)), (.ref b1), (.ref b1)])) _
    refine st71 _ ?_
    show Steps p.tables e below (T71.setTop (mkF m 62 #[.val (.int p0), .unset] [(.ref b1)])) _
    refine XS.dup X71.here hx rfl (hb hby d1_62) rfl rfl ?_
    show Steps p.tables e below (T71.setTop (mkF m 63 #[.val (.int p0), .unset] [(.ref b1), (.ref b1)])) _
    refine XS.bipush X71.here hx rfl (hb hby d1_63) ?_
    show Steps p.tables e below (T71.setTop (mkF m 65 #[.val (.int p0), .unset] [(.int (9 : Int32)), (.ref b1), (.ref b1)])) _
    refine st76 _ ?_
    show Steps p.tables e below (T76.setTop (mkF m 68 #[.val (.int p0), .unset] [(.ref v_STEALTHY), (.int (9 : Int32)), (.ref b1), (.ref b1)])) _
    refine st79 _ ?_
    show Steps p.tables e below (T79.setTop (mkF m 69 #[.val (.int p0), .unset] [(.ref b1)])) _
    refine XS.dup X79.here hx rfl (hb hby d1_69) rfl rfl ?_
    show Steps p.tables e below (T79.setTop (mkF m 70 #[.val (.int p0), .unset] [(.ref b1), (.ref b1)])) _
    refine XS.bipush X79.here hx rfl (hb hby d1_70) ?_
    show Steps p.tables e below (T79.setTop (mkF m 72 #[.val (.int p0), .unset] [(.int (10 : Int32)), (.ref b1), (.ref b1)])) _
    refine st84 _ ?_
    show Steps p.tables e below (T84.setTop (mkF m 75 #[.val (.int p0), .unset] [(.ref v_UNPREDICTABLE), (.int (10 : Int32)), (.ref b1), (.ref b1)])) _
    refine st87 _ ?_
    show Steps p.tables e below (T87.setTop (mkF m 76 #[.val (.int p0), .unset] [(.ref b1)])) _
    refine XS.dup X87.here hx rfl (hb hby d1_76) rfl rfl ?_
    show Steps p.tables e below (T87.setTop (mkF m 77 #[.val (.int p0), .unset] [(.ref b1), (.ref b1)])) _
    refine XS.bipush X87.here hx rfl (hb hby d1_77) ?_
    show Steps p.tables e below (T87.setTop (mkF m 79 #[.val (.int p0), .unset] [(.int (11 : Int32)), (.ref b1), (.ref b1)])) _
    refine st92 _ ?_
    show Steps p.tables e below (T92.setTop (mkF m 82 #[.val (.int p0), .unset] [(.ref v_BROTHER), (.int (11 : Int32)), (.ref b1), (.ref b1)])) _
    refine st95 _ ?_
    show Steps p.tables e below (T95.setTop (mkF m 83 #[.val (.int p0), .unset] [(.ref b1)])) _
    refine XS.dup X95.here hx rfl (hb hby d1_83) rfl rfl ?_
    show Steps p.tables e below (T95.setTop (mkF m 84 #[.val (.int p0), .unset] [(.ref b1), (.ref b1)])) _
    refine XS.bipush X95.here hx rfl (hb hby d1_84) ?_
    show Steps p.tables e below (T95.setTop (mkF m 86 #[.val (.int p0), .unset] [(.int (12 : Int32)), (.ref b1), (.ref b1)])) _
    refine st100 _ ?_
    show Steps p.tables e below (T100.setTop (mkF m 89 #[.val (.int p0), .unset] [(.ref v_UNFATHOMABLE), (.int (12 : Int32)), (.ref b1), (.ref b1)])) _
    refine st103 _ ?_
    show Steps p.tables e below (T103.setTop (mkF m 90 #[.val (.int p0), .unset] [(.ref b1)])) _
    refine XS.dup X103.here hx rfl (hb hby d1_90) rfl rfl ?_
    show Steps p.tables e below (T103.setTop (mkF m 91 #[.val (.int p0), .unset] [(.ref b1), (.ref b1)])) _
    refine XS.bipush X103.here hx rfl (hb hby d1_91) ?_
    show Steps p.tables e below (T103.setTop (mkF m 93 #[.val (.int p0), .unset] [(.int (13 : Int32)), (.ref b1), (.ref b1)])) _
    refine st108 _ ?_
    show Steps p.tables e below (T108.setTop (mkF m 96 #[.val (.int p0), .unset] [(.ref v_FORTUNATE), (.int (13 : Int32)), (.ref b1), (.ref b1)])) _
    refine st111 _ ?_
    show Steps p.tables e below (T111.setTop (mkF m 97 #[.val (.int p0), .unset] [(.ref b1)])) _
    refine XS.dup X111.here hx rfl (hb hby d1_97) rfl rfl ?_
    show Steps p.tables e below (T111.setTop (mkF m 98 #[.val (.int p0), .unset] [(.ref b1), (.ref b1)])) _
    refine XS.bipush X111.here hx rfl (hb hby d1_98) ?_
    show Steps p.tables e below (T111.setTop (mkF m 100 #[.val (.int p0), .unset] [(.int (14 : Int32)), (.ref b1), (.ref b1)])) _
    refine st116 _ ?_
    show Steps p.tables e below (T116.setTop (mkF m 103 #[.val (.int p0), .unset] [(.ref v_MERCHANT), (.int (14 : Int32)), (.ref b1), (.ref b1)])) _
    refine st119 _ ?_
    show Steps p.tables e below (T119.setTop (mkF m 104 #[.val (.int p0), .unset] [(.ref b1)])) _
    refine XS.dup X119.here hx rfl (hb hby d1_104) rfl rfl ?_
    show Steps p.tables e below (T119.setTop (mkF m 105 #[.val (.int p0), .unset] [(.ref b1), (.ref b1)])) _
    refine XS.bipush X119.here hx rfl (hb hby d1_105) ?_
    show Steps p.tables e below (T119.setTop (mkF m 107 #[.val (.int p0), .unset] [(.int (15 : Int32)), (.ref b1), (.ref b1)])) _
    refine st124 _ ?_
    show Steps p.tables e below (T124.setTop (mkF m 110 #[.val (.int p0), .unset] [(.ref v_SEER), (.int (15 : Int32)), (.ref b1), (.ref b1)])) _
    refine st127 _ ?_
    show Steps p.tables e below (T127.setTop (mkF m 111 #[.val (.int p0), .unset] [(.ref b1)])) _
    refine XS.dup X127.here hx rfl (hb hby d1_111) rfl rfl ?_
    show Steps p.tables e below (T127.setTop (mkF m 112 #[.val (.int p0), .unset] [(.ref b1), (.ref b1)])) _
    refine XS.bipush X127.here hx rfl (hb hby d1_112) ?_
    show Steps p.tables e below (T127.setTop (mkF m 114 #[.val (.int p0), .unset] [(.int (16 : Int32)), (.ref b1), (.ref b1)])) _
    refine st132 _ ?_
    show Steps p.tables e below (T132.setTop (mkF m 117 #[.val (.int p0), .unset] [(.ref v_HEADHUNTER), (.int (16 : Int32)), (.ref b1), (.ref b1)])) _
    refine st135 _ ?_
    show Steps p.tables e below (T135.setTop (mkF m 118 #[.val (.int p0), .unset] [(.ref b1)])) _
    refine XS.astoreN X135.here hx rfl (hb hby d1_118) rfl rfl (l' := #[.val (.int p0), .val (.ref b1)]) rfl ?_
    show Steps p.tables e below (T135.setTop (mkF m 119 #[.val (.int p0), .val (.ref b1)] [])) _
    refine XS.aloadN X135.here hx rfl (hb hby d1_119) rfl rfl ?_
    show Steps p.tables e below (T135.setTop (mkF m 120 #[.val (.int p0), .val (.ref b1)] [(.ref b1)])) _
    refine XS.iloadN X135.here hx rfl (hb hby d1_120) rfl ?_
    exact kt
  rcases own_or17 p0 hr with hq121_140 | hq121_141 | hq121_142 | hq121_143 | hq121_144 | hq121_145 | hq121_146 | hq121_147 | hq121_148 | hq121_149 | hq121_150 | hq121_151 | hq121_152 | hq121_153 | hq121_154 | hq121_155 | hq121_156
  · skip
    obtain ⟨cl157, Ar157, q157, S_157, N_157, H157, G157⟩ := c137
    have hin157 : ¬ (p0 < 0 ∨ cl157.slots.size ≤ (p0).toNatClampNeg) := inb_of S_157 ⟨by rw [hq121_140]; decide, by rw [hq121_140]; decide⟩
    have hat157 : cl157.slots[(p0).toNatClampNeg]? = some (.ref v_VENAL) := Has.at H157 hin157 (by rw [hq121_140]; rfl)
    obtain ⟨fs, hrT, hrunT, hendT, hWT, hsameT⟩ := X135.leave (v := some (.ref v_VENAL)) (fun h => by rw [Bd.returns] at h; cases h)
    refine ⟨_, _, S139 _ ?_, hrunT, hendT, _, _, rfl, ?_, ⟨_, rfl⟩, hWT, hsameT.mono (by decide) (by decide)⟩
    · show Steps p.tables e below (T135.setTop (mkF m 121 #[.val (.int p0), .val (.ref b1)] [(.int p0), (.ref b1)])) _
      refine X135.aaload hx (j := p0) (v := (.ref v_VENAL)) (by rw [e135]; exact Ar157.1) (State.isArrayOf_alike hZ.alike Ar157.2.1) rfl Ar157.2.2 hin157 hat157 (g := (mkF m 121 #[.val (.int p0), .val (.ref b1)] [(.int p0), (.ref b1)])) rfl rfl (hb hby d1_121) _ ?_
      show Steps p.tables e below (T135.setTop (mkF m 122 #[.val (.int p0), .val (.ref b1)] [(.ref v_VENAL)])) _
      exact retOut X135 hx Bd.returns rfl (by right; right; right; right; exact ⟨rfl, rfl, rfl⟩) (hb hby d1_122) hrT
    · show Q1 Z p0 v_VENAL v_DEADLY v_EAGLE_EYE v_EXPLOSIVE v_STEEL_FIST v_TYRANT v_FOREMAN v_GREEDY v_ELUSIVE v_STEALTHY v_UNPREDICTABLE v_BROTHER v_UNFATHOMABLE v_FORTUNATE v_MERCHANT v_SEER v_HEADHUNTER v_WARRIOR v_HUNTER v_MINER v_BLACKSMITH v_EXPLORER h0 n0 _ T135.heap _
      rw [e135]
      have c158 : Exa Z h135 v_VENAL "com/example/runehall/runehall/tavern/Hero" := (((((((((((((((((c6.wr W7).wr W15).wr W23).wr W31).wr W39).wr W47).wr W55).wr W63).wr W71).wr W79).wr W87).wr W95).wr W103).wr W111).wr W119).wr W127).wr W135)
      have c159 : Fld Z h135 v_VENAL "com/example/runehall/runehall/tavern/Hero" "dwarfClass" "Lcom/example/runehall/runehall/tavern/DwarfClass;" (.ref v_WARRIOR) := ((((((((((((((((((Fv_VENAL_dwarfClass.ext E1).other W7 (Or.inl (Nat.ne_of_lt (Nat.lt_of_lt_of_le Fv_VENAL_ordinal.lt (Nat.le_of_eq g1.symm))))).other W15 (Or.inl (Nat.ne_of_lt (Nat.lt_of_lt_of_le Fv_VENAL_ordinal.lt (Nat.le_of_eq g1.symm))))).other W23 (Or.inl (Nat.ne_of_lt (Nat.lt_of_lt_of_le Fv_VENAL_ordinal.lt (Nat.le_of_eq g1.symm))))).other W31 (Or.inl (Nat.ne_of_lt (Nat.lt_of_lt_of_le Fv_VENAL_ordinal.lt (Nat.le_of_eq g1.symm))))).other W39 (Or.inl (Nat.ne_of_lt (Nat.lt_of_lt_of_le Fv_VENAL_ordinal.lt (Nat.le_of_eq g1.symm))))).other W47 (Or.inl (Nat.ne_of_lt (Nat.lt_of_lt_of_le Fv_VENAL_ordinal.lt (Nat.le_of_eq g1.symm))))).other W55 (Or.inl (Nat.ne_of_lt (Nat.lt_of_lt_of_le Fv_VENAL_ordinal.lt (Nat.le_of_eq g1.symm))))).other W63 (Or.inl (Nat.ne_of_lt (Nat.lt_of_lt_of_le Fv_VENAL_ordinal.lt (Nat.le_of_eq g1.symm))))).other W71 (Or.inl (Nat.ne_of_lt (Nat.lt_of_lt_of_le Fv_VENAL_ordinal.lt (Nat.le_of_eq g1.symm))))).other W79 (Or.inl (Nat.ne_of_lt (Nat.lt_of_lt_of_le Fv_VENAL_ordinal.lt (Nat.le_of_eq g1.symm))))).other W87 (Or.inl (Nat.ne_of_lt (Nat.lt_of_lt_of_le Fv_VENAL_ordinal.lt (Nat.le_of_eq g1.symm))))).other W95 (Or.inl (Nat.ne_of_lt (Nat.lt_of_lt_of_le Fv_VENAL_ordinal.lt (Nat.le_of_eq g1.symm))))).other W103 (Or.inl (Nat.ne_of_lt (Nat.lt_of_lt_of_le Fv_VENAL_ordinal.lt (Nat.le_of_eq g1.symm))))).other W111 (Or.inl (Nat.ne_of_lt (Nat.lt_of_lt_of_le Fv_VENAL_ordinal.lt (Nat.le_of_eq g1.symm))))).other W119 (Or.inl (Nat.ne_of_lt (Nat.lt_of_lt_of_le Fv_VENAL_ordinal.lt (Nat.le_of_eq g1.symm))))).other W127 (Or.inl (Nat.ne_of_lt (Nat.lt_of_lt_of_le Fv_VENAL_ordinal.lt (Nat.le_of_eq g1.symm))))).other W135 (Or.inl (Nat.ne_of_lt (Nat.lt_of_lt_of_le Fv_VENAL_ordinal.lt (Nat.le_of_eq g1.symm)))))
      have c160 : Fld Z h135 v_VENAL "java/lang/Enum" "ordinal" "I" (.int (0 : Int32)) := ((((((((((((((((((Fv_VENAL_ordinal.ext E1).other W7 (Or.inl (Nat.ne_of_lt (Nat.lt_of_lt_of_le Fv_VENAL_ordinal.lt (Nat.le_of_eq g1.symm))))).other W15 (Or.inl (Nat.ne_of_lt (Nat.lt_of_lt_of_le Fv_VENAL_ordinal.lt (Nat.le_of_eq g1.symm))))).other W23 (Or.inl (Nat.ne_of_lt (Nat.lt_of_lt_of_le Fv_VENAL_ordinal.lt (Nat.le_of_eq g1.symm))))).other W31 (Or.inl (Nat.ne_of_lt (Nat.lt_of_lt_of_le Fv_VENAL_ordinal.lt (Nat.le_of_eq g1.symm))))).other W39 (Or.inl (Nat.ne_of_lt (Nat.lt_of_lt_of_le Fv_VENAL_ordinal.lt (Nat.le_of_eq g1.symm))))).other W47 (Or.inl (Nat.ne_of_lt (Nat.lt_of_lt_of_le Fv_VENAL_ordinal.lt (Nat.le_of_eq g1.symm))))).other W55 (Or.inl (Nat.ne_of_lt (Nat.lt_of_lt_of_le Fv_VENAL_ordinal.lt (Nat.le_of_eq g1.symm))))).other W63 (Or.inl (Nat.ne_of_lt (Nat.lt_of_lt_of_le Fv_VENAL_ordinal.lt (Nat.le_of_eq g1.symm))))).other W71 (Or.inl (Nat.ne_of_lt (Nat.lt_of_lt_of_le Fv_VENAL_ordinal.lt (Nat.le_of_eq g1.symm))))).other W79 (Or.inl (Nat.ne_of_lt (Nat.lt_of_lt_of_le Fv_VENAL_ordinal.lt (Nat.le_of_eq g1.symm))))).other W87 (Or.inl (Nat.ne_of_lt (Nat.lt_of_lt_of_le Fv_VENAL_ordinal.lt (Nat.le_of_eq g1.symm))))).other W95 (Or.inl (Nat.ne_of_lt (Nat.lt_of_lt_of_le Fv_VENAL_ordinal.lt (Nat.le_of_eq g1.symm))))).other W103 (Or.inl (Nat.ne_of_lt (Nat.lt_of_lt_of_le Fv_VENAL_ordinal.lt (Nat.le_of_eq g1.symm))))).other W111 (Or.inl (Nat.ne_of_lt (Nat.lt_of_lt_of_le Fv_VENAL_ordinal.lt (Nat.le_of_eq g1.symm))))).other W119 (Or.inl (Nat.ne_of_lt (Nat.lt_of_lt_of_le Fv_VENAL_ordinal.lt (Nat.le_of_eq g1.symm))))).other W127 (Or.inl (Nat.ne_of_lt (Nat.lt_of_lt_of_le Fv_VENAL_ordinal.lt (Nat.le_of_eq g1.symm))))).other W135 (Or.inl (Nat.ne_of_lt (Nat.lt_of_lt_of_le Fv_VENAL_ordinal.lt (Nat.le_of_eq g1.symm)))))
      exact ⟨v_VENAL, rfl, N138, K136, c158, (by rw [hq121_140, own_dc0]; exact c159), (by rw [hq121_140]; exact c160), (fun q => absurd (hq121_140.symm.trans q) (by decide))⟩
  · skip
    have hq121_141_0 : ¬ p0 = (0 : Int32) := by rw [hq121_141]; decide
    obtain ⟨cl161, Ar161, q161, S_161, N_161, H161, G161⟩ := c137
    have hin161 : ¬ (p0 < 0 ∨ cl161.slots.size ≤ (p0).toNatClampNeg) := inb_of S_161 ⟨by rw [hq121_141]; decide, by rw [hq121_141]; decide⟩
    have hat161 : cl161.slots[(p0).toNatClampNeg]? = some (.ref v_DEADLY) := Has.at H161 hin161 (by rw [hq121_141]; rfl)
    obtain ⟨fs, hrT, hrunT, hendT, hWT, hsameT⟩ := X135.leave (v := some (.ref v_DEADLY)) (fun h => by rw [Bd.returns] at h; cases h)
    refine ⟨_, _, S139 _ ?_, hrunT, hendT, _, _, rfl, ?_, ⟨_, rfl⟩, hWT, hsameT.mono (by decide) (by decide)⟩
    · show Steps p.tables e below (T135.setTop (mkF m 121 #[.val (.int p0), .val (.ref b1)] [(.int p0), (.ref b1)])) _
      refine X135.aaload hx (j := p0) (v := (.ref v_DEADLY)) (by rw [e135]; exact Ar161.1) (State.isArrayOf_alike hZ.alike Ar161.2.1) rfl Ar161.2.2 hin161 hat161 (g := (mkF m 121 #[.val (.int p0), .val (.ref b1)] [(.int p0), (.ref b1)])) rfl rfl (hb hby d1_121) _ ?_
      show Steps p.tables e below (T135.setTop (mkF m 122 #[.val (.int p0), .val (.ref b1)] [(.ref v_DEADLY)])) _
      exact retOut X135 hx Bd.returns rfl (by right; right; right; right; exact ⟨rfl, rfl, rfl⟩) (hb hby d1_122) hrT
    · show Q1 Z p0 v_VENAL v_DEADLY v_EAGLE_EYE v_EXPLOSIVE v_STEEL_FIST v_TYRANT v_FOREMAN v_GREEDY v_ELUSIVE v_STEALTHY v_UNPREDICTABLE v_BROTHER v_UNFATHOMABLE v_FORTUNATE v_MERCHANT v_SEER v_HEADHUNTER v_WARRIOR v_HUNTER v_MINER v_BLACKSMITH v_EXPLORER h0 n0 _ T135.heap _
      rw [e135]
      have c162 : Exa Z h135 v_DEADLY "com/example/runehall/runehall/tavern/Hero" := ((((((((((((((((c14.wr W15).wr W23).wr W31).wr W39).wr W47).wr W55).wr W63).wr W71).wr W79).wr W87).wr W95).wr W103).wr W111).wr W119).wr W127).wr W135)
      have c163 : Fld Z h135 v_DEADLY "com/example/runehall/runehall/tavern/Hero" "dwarfClass" "Lcom/example/runehall/runehall/tavern/DwarfClass;" (.ref v_WARRIOR) := ((((((((((((((((((Fv_DEADLY_dwarfClass.ext E1).other W7 (Or.inl (Nat.ne_of_lt (Nat.lt_of_lt_of_le Fv_DEADLY_ordinal.lt (Nat.le_of_eq g1.symm))))).other W15 (Or.inl (Nat.ne_of_lt (Nat.lt_of_lt_of_le Fv_DEADLY_ordinal.lt (Nat.le_of_eq g1.symm))))).other W23 (Or.inl (Nat.ne_of_lt (Nat.lt_of_lt_of_le Fv_DEADLY_ordinal.lt (Nat.le_of_eq g1.symm))))).other W31 (Or.inl (Nat.ne_of_lt (Nat.lt_of_lt_of_le Fv_DEADLY_ordinal.lt (Nat.le_of_eq g1.symm))))).other W39 (Or.inl (Nat.ne_of_lt (Nat.lt_of_lt_of_le Fv_DEADLY_ordinal.lt (Nat.le_of_eq g1.symm))))).other W47 (Or.inl (Nat.ne_of_lt (Nat.lt_of_lt_of_le Fv_DEADLY_ordinal.lt (Nat.le_of_eq g1.symm))))).other W55 (Or.inl (Nat.ne_of_lt (Nat.lt_of_lt_of_le Fv_DEADLY_ordinal.lt (Nat.le_of_eq g1.symm))))).other W63 (Or.inl (Nat.ne_of_lt (Nat.lt_of_lt_of_le Fv_DEADLY_ordinal.lt (Nat.le_of_eq g1.symm))))).other W71 (Or.inl (Nat.ne_of_lt (Nat.lt_of_lt_of_le Fv_DEADLY_ordinal.lt (Nat.le_of_eq g1.symm))))).other W79 (Or.inl (Nat.ne_of_lt (Nat.lt_of_lt_of_le Fv_DEADLY_ordinal.lt (Nat.le_of_eq g1.symm))))).other W87 (Or.inl (Nat.ne_of_lt (Nat.lt_of_lt_of_le Fv_DEADLY_ordinal.lt (Nat.le_of_eq g1.symm))))).other W95 (Or.inl (Nat.ne_of_lt (Nat.lt_of_lt_of_le Fv_DEADLY_ordinal.lt (Nat.le_of_eq g1.symm))))).other W103 (Or.inl (Nat.ne_of_lt (Nat.lt_of_lt_of_le Fv_DEADLY_ordinal.lt (Nat.le_of_eq g1.symm))))).other W111 (Or.inl (Nat.ne_of_lt (Nat.lt_of_lt_of_le Fv_DEADLY_ordinal.lt (Nat.le_of_eq g1.symm))))).other W119 (Or.inl (Nat.ne_of_lt (Nat.lt_of_lt_of_le Fv_DEADLY_ordinal.lt (Nat.le_of_eq g1.symm))))).other W127 (Or.inl (Nat.ne_of_lt (Nat.lt_of_lt_of_le Fv_DEADLY_ordinal.lt (Nat.le_of_eq g1.symm))))).other W135 (Or.inl (Nat.ne_of_lt (Nat.lt_of_lt_of_le Fv_DEADLY_ordinal.lt (Nat.le_of_eq g1.symm)))))
      have c164 : Fld Z h135 v_DEADLY "java/lang/Enum" "ordinal" "I" (.int (1 : Int32)) := ((((((((((((((((((Fv_DEADLY_ordinal.ext E1).other W7 (Or.inl (Nat.ne_of_lt (Nat.lt_of_lt_of_le Fv_DEADLY_ordinal.lt (Nat.le_of_eq g1.symm))))).other W15 (Or.inl (Nat.ne_of_lt (Nat.lt_of_lt_of_le Fv_DEADLY_ordinal.lt (Nat.le_of_eq g1.symm))))).other W23 (Or.inl (Nat.ne_of_lt (Nat.lt_of_lt_of_le Fv_DEADLY_ordinal.lt (Nat.le_of_eq g1.symm))))).other W31 (Or.inl (Nat.ne_of_lt (Nat.lt_of_lt_of_le Fv_DEADLY_ordinal.lt (Nat.le_of_eq g1.symm))))).other W39 (Or.inl (Nat.ne_of_lt (Nat.lt_of_lt_of_le Fv_DEADLY_ordinal.lt (Nat.le_of_eq g1.symm))))).other W47 (Or.inl (Nat.ne_of_lt (Nat.lt_of_lt_of_le Fv_DEADLY_ordinal.lt (Nat.le_of_eq g1.symm))))).other W55 (Or.inl (Nat.ne_of_lt (Nat.lt_of_lt_of_le Fv_DEADLY_ordinal.lt (Nat.le_of_eq g1.symm))))).other W63 (Or.inl (Nat.ne_of_lt (Nat.lt_of_lt_of_le Fv_DEADLY_ordinal.lt (Nat.le_of_eq g1.symm))))).other W71 (Or.inl (Nat.ne_of_lt (Nat.lt_of_lt_of_le Fv_DEADLY_ordinal.lt (Nat.le_of_eq g1.symm))))).other W79 (Or.inl (Nat.ne_of_lt (Nat.lt_of_lt_of_le Fv_DEADLY_ordinal.lt (Nat.le_of_eq g1.symm))))).other W87 (Or.inl (Nat.ne_of_lt (Nat.lt_of_lt_of_le Fv_DEADLY_ordinal.lt (Nat.le_of_eq g1.symm))))).other W95 (Or.inl (Nat.ne_of_lt (Nat.lt_of_lt_of_le Fv_DEADLY_ordinal.lt (Nat.le_of_eq g1.symm))))).other W103 (Or.inl (Nat.ne_of_lt (Nat.lt_of_lt_of_le Fv_DEADLY_ordinal.lt (Nat.le_of_eq g1.symm))))).other W111 (Or.inl (Nat.ne_of_lt (Nat.lt_of_lt_of_le Fv_DEADLY_ordinal.lt (Nat.le_of_eq g1.symm))))).other W119 (Or.inl (Nat.ne_of_lt (Nat.lt_of_lt_of_le Fv_DEADLY_ordinal.lt (Nat.le_of_eq g1.symm))))).other W127 (Or.inl (Nat.ne_of_lt (Nat.lt_of_lt_of_le Fv_DEADLY_ordinal.lt (Nat.le_of_eq g1.symm))))).other W135 (Or.inl (Nat.ne_of_lt (Nat.lt_of_lt_of_le Fv_DEADLY_ordinal.lt (Nat.le_of_eq g1.symm)))))
      exact ⟨v_DEADLY, rfl, N138, K136, c162, (by rw [hq121_141, own_dc1]; exact c163), (by rw [hq121_141]; exact c164), (fun q => absurd (hq121_141.symm.trans q) (by decide))⟩
  · skip
    have hq121_142_0 : ¬ p0 = (0 : Int32) := by rw [hq121_142]; decide
    have hq121_142_1 : ¬ p0 = (1 : Int32) := by rw [hq121_142]; decide
    obtain ⟨cl165, Ar165, q165, S_165, N_165, H165, G165⟩ := c137
    have hin165 : ¬ (p0 < 0 ∨ cl165.slots.size ≤ (p0).toNatClampNeg) := inb_of S_165 ⟨by rw [hq121_142]; decide, by rw [hq121_142]; decide⟩
    have hat165 : cl165.slots[(p0).toNatClampNeg]? = some (.ref v_EAGLE_EYE) := Has.at H165 hin165 (by rw [hq121_142]; rfl)
    obtain ⟨fs, hrT, hrunT, hendT, hWT, hsameT⟩ := X135.leave (v := some (.ref v_EAGLE_EYE)) (fun h => by rw [Bd.returns] at h; cases h)
    refine ⟨_, _, S139 _ ?_, hrunT, hendT, _, _, rfl, ?_, ⟨_, rfl⟩, hWT, hsameT.mono (by decide) (by decide)⟩
    · show Steps p.tables e below (T135.setTop (mkF m 121 #[.val (.int p0), .val (.ref b1)] [(.int p0), (.ref b1)])) _
      refine X135.aaload hx (j := p0) (v := (.ref v_EAGLE_EYE)) (by rw [e135]; exact Ar165.1) (State.isArrayOf_alike hZ.alike Ar165.2.1) rfl Ar165.2.2 hin165 hat165 (g := (mkF m 121 #[.val (.int p0), .val (.ref b1)] [(.int p0), (.ref b1)])) rfl rfl (hb hby d1_121) _ ?_
      show Steps p.tables e below (T135.setTop (mkF m 122 #[.val (.int p0), .val (.ref b1)] [(.ref v_EAGLE_EYE)])) _
      exact retOut X135 hx Bd.returns rfl (by right; right; right; right; exact ⟨rfl, rfl, rfl⟩) (hb hby d1_122) hrT
    · show Q1 Z p0 v_VENAL v_DEADLY v_EAGLE_EYE v_EXPLOSIVE v_STEEL_FIST v_TYRANT v_FOREMAN v_GREEDY v_ELUSIVE v_STEALTHY v_UNPREDICTABLE v_BROTHER v_UNFATHOMABLE v_FORTUNATE v_MERCHANT v_SEER v_HEADHUNTER v_WARRIOR v_HUNTER v_MINER v_BLACKSMITH v_EXPLORER h0 n0 _ T135.heap _
      rw [e135]
      have c166 : Exa Z h135 v_EAGLE_EYE "com/example/runehall/runehall/tavern/Hero" := (((((((((((((((c22.wr W23).wr W31).wr W39).wr W47).wr W55).wr W63).wr W71).wr W79).wr W87).wr W95).wr W103).wr W111).wr W119).wr W127).wr W135)
      have c167 : Fld Z h135 v_EAGLE_EYE "com/example/runehall/runehall/tavern/Hero" "dwarfClass" "Lcom/example/runehall/runehall/tavern/DwarfClass;" (.ref v_HUNTER) := ((((((((((((((((((Fv_EAGLE_EYE_dwarfClass.ext E1).other W7 (Or.inl (Nat.ne_of_lt (Nat.lt_of_lt_of_le Fv_EAGLE_EYE_ordinal.lt (Nat.le_of_eq g1.symm))))).other W15 (Or.inl (Nat.ne_of_lt (Nat.lt_of_lt_of_le Fv_EAGLE_EYE_ordinal.lt (Nat.le_of_eq g1.symm))))).other W23 (Or.inl (Nat.ne_of_lt (Nat.lt_of_lt_of_le Fv_EAGLE_EYE_ordinal.lt (Nat.le_of_eq g1.symm))))).other W31 (Or.inl (Nat.ne_of_lt (Nat.lt_of_lt_of_le Fv_EAGLE_EYE_ordinal.lt (Nat.le_of_eq g1.symm))))).other W39 (Or.inl (Nat.ne_of_lt (Nat.lt_of_lt_of_le Fv_EAGLE_EYE_ordinal.lt (Nat.le_of_eq g1.symm))))).other W47 (Or.inl (Nat.ne_of_lt (Nat.lt_of_lt_of_le Fv_EAGLE_EYE_ordinal.lt (Nat.le_of_eq g1.symm))))).other W55 (Or.inl (Nat.ne_of_lt (Nat.lt_of_lt_of_le Fv_EAGLE_EYE_ordinal.lt (Nat.le_of_eq g1.symm))))).other W63 (Or.inl (Nat.ne_of_lt (Nat.lt_of_lt_of_le Fv_EAGLE_EYE_ordinal.lt (Nat.le_of_eq g1.symm))))).other W71 (Or.inl (Nat.ne_of_lt (Nat.lt_of_lt_of_le Fv_EAGLE_EYE_ordinal.lt (Nat.le_of_eq g1.symm))))).other W79 (Or.inl (Nat.ne_of_lt (Nat.lt_of_lt_of_le Fv_EAGLE_EYE_ordinal.lt (Nat.le_of_eq g1.symm))))).other W87 (Or.inl (Nat.ne_of_lt (Nat.lt_of_lt_of_le Fv_EAGLE_EYE_ordinal.lt (Nat.le_of_eq g1.symm))))).other W95 (Or.inl (Nat.ne_of_lt (Nat.lt_of_lt_of_le Fv_EAGLE_EYE_ordinal.lt (Nat.le_of_eq g1.symm))))).other W103 (Or.inl (Nat.ne_of_lt (Nat.lt_of_lt_of_le Fv_EAGLE_EYE_ordinal.lt (Nat.le_of_eq g1.symm))))).other W111 (Or.inl (Nat.ne_of_lt (Nat.lt_of_lt_of_le Fv_EAGLE_EYE_ordinal.lt (Nat.le_of_eq g1.symm))))).other W119 (Or.inl (Nat.ne_of_lt (Nat.lt_of_lt_of_le Fv_EAGLE_EYE_ordinal.lt (Nat.le_of_eq g1.symm))))).other W127 (Or.inl (Nat.ne_of_lt (Nat.lt_of_lt_of_le Fv_EAGLE_EYE_ordinal.lt (Nat.le_of_eq g1.symm))))).other W135 (Or.inl (Nat.ne_of_lt (Nat.lt_of_lt_of_le Fv_EAGLE_EYE_ordinal.lt (Nat.le_of_eq g1.symm)))))
      have c168 : Fld Z h135 v_EAGLE_EYE "java/lang/Enum" "ordinal" "I" (.int (2 : Int32)) := ((((((((((((((((((Fv_EAGLE_EYE_ordinal.ext E1).other W7 (Or.inl (Nat.ne_of_lt (Nat.lt_of_lt_of_le Fv_EAGLE_EYE_ordinal.lt (Nat.le_of_eq g1.symm))))).other W15 (Or.inl (Nat.ne_of_lt (Nat.lt_of_lt_of_le Fv_EAGLE_EYE_ordinal.lt (Nat.le_of_eq g1.symm))))).other W23 (Or.inl (Nat.ne_of_lt (Nat.lt_of_lt_of_le Fv_EAGLE_EYE_ordinal.lt (Nat.le_of_eq g1.symm))))).other W31 (Or.inl (Nat.ne_of_lt (Nat.lt_of_lt_of_le Fv_EAGLE_EYE_ordinal.lt (Nat.le_of_eq g1.symm))))).other W39 (Or.inl (Nat.ne_of_lt (Nat.lt_of_lt_of_le Fv_EAGLE_EYE_ordinal.lt (Nat.le_of_eq g1.symm))))).other W47 (Or.inl (Nat.ne_of_lt (Nat.lt_of_lt_of_le Fv_EAGLE_EYE_ordinal.lt (Nat.le_of_eq g1.symm))))).other W55 (Or.inl (Nat.ne_of_lt (Nat.lt_of_lt_of_le Fv_EAGLE_EYE_ordinal.lt (Nat.le_of_eq g1.symm))))).other W63 (Or.inl (Nat.ne_of_lt (Nat.lt_of_lt_of_le Fv_EAGLE_EYE_ordinal.lt (Nat.le_of_eq g1.symm))))).other W71 (Or.inl (Nat.ne_of_lt (Nat.lt_of_lt_of_le Fv_EAGLE_EYE_ordinal.lt (Nat.le_of_eq g1.symm))))).other W79 (Or.inl (Nat.ne_of_lt (Nat.lt_of_lt_of_le Fv_EAGLE_EYE_ordinal.lt (Nat.le_of_eq g1.symm))))).other W87 (Or.inl (Nat.ne_of_lt (Nat.lt_of_lt_of_le Fv_EAGLE_EYE_ordinal.lt (Nat.le_of_eq g1.symm))))).other W95 (Or.inl (Nat.ne_of_lt (Nat.lt_of_lt_of_le Fv_EAGLE_EYE_ordinal.lt (Nat.le_of_eq g1.symm))))).other W103 (Or.inl (Nat.ne_of_lt (Nat.lt_of_lt_of_le Fv_EAGLE_EYE_ordinal.lt (Nat.le_of_eq g1.symm))))).other W111 (Or.inl (Nat.ne_of_lt (Nat.lt_of_lt_of_le Fv_EAGLE_EYE_ordinal.lt (Nat.le_of_eq g1.symm))))).other W119 (Or.inl (Nat.ne_of_lt (Nat.lt_of_lt_of_le Fv_EAGLE_EYE_ordinal.lt (Nat.le_of_eq g1.symm))))).other W127 (Or.inl (Nat.ne_of_lt (Nat.lt_of_lt_of_le Fv_EAGLE_EYE_ordinal.lt (Nat.le_of_eq g1.symm))))).other W135 (Or.inl (Nat.ne_of_lt (Nat.lt_of_lt_of_le Fv_EAGLE_EYE_ordinal.lt (Nat.le_of_eq g1.symm)))))
      exact ⟨v_EAGLE_EYE, rfl, N138, K136, c166, (by rw [hq121_142, own_dc2]; exact c167), (by rw [hq121_142]; exact c168), (fun q => absurd (hq121_142.symm.trans q) (by decide))⟩
  · skip
    have hq121_143_0 : ¬ p0 = (0 : Int32) := by rw [hq121_143]; decide
    have hq121_143_1 : ¬ p0 = (1 : Int32) := by rw [hq121_143]; decide
    have hq121_143_2 : ¬ p0 = (2 : Int32) := by rw [hq121_143]; decide
    obtain ⟨cl169, Ar169, q169, S_169, N_169, H169, G169⟩ := c137
    have hin169 : ¬ (p0 < 0 ∨ cl169.slots.size ≤ (p0).toNatClampNeg) := inb_of S_169 ⟨by rw [hq121_143]; decide, by rw [hq121_143]; decide⟩
    have hat169 : cl169.slots[(p0).toNatClampNeg]? = some (.ref v_EXPLOSIVE) := Has.at H169 hin169 (by rw [hq121_143]; rfl)
    obtain ⟨fs, hrT, hrunT, hendT, hWT, hsameT⟩ := X135.leave (v := some (.ref v_EXPLOSIVE)) (fun h => by rw [Bd.returns] at h; cases h)
    refine ⟨_, _, S139 _ ?_, hrunT, hendT, _, _, rfl, ?_, ⟨_, rfl⟩, hWT, hsameT.mono (by decide) (by decide)⟩
    · show Steps p.tables e below (T135.setTop (mkF m 121 #[.val (.int p0), .val (.ref b1)] [(.int p0), (.ref b1)])) _
      refine X135.aaload hx (j := p0) (v := (.ref v_EXPLOSIVE)) (by rw [e135]; exact Ar169.1) (State.isArrayOf_alike hZ.alike Ar169.2.1) rfl Ar169.2.2 hin169 hat169 (g := (mkF m 121 #[.val (.int p0), .val (.ref b1)] [(.int p0), (.ref b1)])) rfl rfl (hb hby d1_121) _ ?_
      show Steps p.tables e below (T135.setTop (mkF m 122 #[.val (.int p0), .val (.ref b1)] [(.ref v_EXPLOSIVE)])) _
      exact retOut X135 hx Bd.returns rfl (by right; right; right; right; exact ⟨rfl, rfl, rfl⟩) (hb hby d1_122) hrT
    · show Q1 Z p0 v_VENAL v_DEADLY v_EAGLE_EYE v_EXPLOSIVE v_STEEL_FIST v_TYRANT v_FOREMAN v_GREEDY v_ELUSIVE v_STEALTHY v_UNPREDICTABLE v_BROTHER v_UNFATHOMABLE v_FORTUNATE v_MERCHANT v_SEER v_HEADHUNTER v_WARRIOR v_HUNTER v_MINER v_BLACKSMITH v_EXPLORER h0 n0 _ T135.heap _
      rw [e135]
      have c170 : Exa Z h135 v_EXPLOSIVE "com/example/runehall/runehall/tavern/Hero" := ((((((((((((((c30.wr W31).wr W39).wr W47).wr W55).wr W63).wr W71).wr W79).wr W87).wr W95).wr W103).wr W111).wr W119).wr W127).wr W135)
      have c171 : Fld Z h135 v_EXPLOSIVE "com/example/runehall/runehall/tavern/Hero" "dwarfClass" "Lcom/example/runehall/runehall/tavern/DwarfClass;" (.ref v_HUNTER) := ((((((((((((((((((Fv_EXPLOSIVE_dwarfClass.ext E1).other W7 (Or.inl (Nat.ne_of_lt (Nat.lt_of_lt_of_le Fv_EXPLOSIVE_ordinal.lt (Nat.le_of_eq g1.symm))))).other W15 (Or.inl (Nat.ne_of_lt (Nat.lt_of_lt_of_le Fv_EXPLOSIVE_ordinal.lt (Nat.le_of_eq g1.symm))))).other W23 (Or.inl (Nat.ne_of_lt (Nat.lt_of_lt_of_le Fv_EXPLOSIVE_ordinal.lt (Nat.le_of_eq g1.symm))))).other W31 (Or.inl (Nat.ne_of_lt (Nat.lt_of_lt_of_le Fv_EXPLOSIVE_ordinal.lt (Nat.le_of_eq g1.symm))))).other W39 (Or.inl (Nat.ne_of_lt (Nat.lt_of_lt_of_le Fv_EXPLOSIVE_ordinal.lt (Nat.le_of_eq g1.symm))))).other W47 (Or.inl (Nat.ne_of_lt (Nat.lt_of_lt_of_le Fv_EXPLOSIVE_ordinal.lt (Nat.le_of_eq g1.symm))))).other W55 (Or.inl (Nat.ne_of_lt (Nat.lt_of_lt_of_le Fv_EXPLOSIVE_ordinal.lt (Nat.le_of_eq g1.symm))))).other W63 (Or.inl (Nat.ne_of_lt (Nat.lt_of_lt_of_le Fv_EXPLOSIVE_ordinal.lt (Nat.le_of_eq g1.symm))))).other W71 (Or.inl (Nat.ne_of_lt (Nat.lt_of_lt_of_le Fv_EXPLOSIVE_ordinal.lt (Nat.le_of_eq g1.symm))))).other W79 (Or.inl (Nat.ne_of_lt (Nat.lt_of_lt_of_le Fv_EXPLOSIVE_ordinal.lt (Nat.le_of_eq g1.symm))))).other W87 (Or.inl (Nat.ne_of_lt (Nat.lt_of_lt_of_le Fv_EXPLOSIVE_ordinal.lt (Nat.le_of_eq g1.symm))))).other W95 (Or.inl (Nat.ne_of_lt (Nat.lt_of_lt_of_le Fv_EXPLOSIVE_ordinal.lt (Nat.le_of_eq g1.symm))))).other W103 (Or.inl (Nat.ne_of_lt (Nat.lt_of_lt_of_le Fv_EXPLOSIVE_ordinal.lt (Nat.le_of_eq g1.symm))))).other W111 (Or.inl (Nat.ne_of_lt (Nat.lt_of_lt_of_le Fv_EXPLOSIVE_ordinal.lt (Nat.le_of_eq g1.symm))))).other W119 (Or.inl (Nat.ne_of_lt (Nat.lt_of_lt_of_le Fv_EXPLOSIVE_ordinal.lt (Nat.le_of_eq g1.symm))))).other W127 (Or.inl (Nat.ne_of_lt (Nat.lt_of_lt_of_le Fv_EXPLOSIVE_ordinal.lt (Nat.le_of_eq g1.symm))))).other W135 (Or.inl (Nat.ne_of_lt (Nat.lt_of_lt_of_le Fv_EXPLOSIVE_ordinal.lt (Nat.le_of_eq g1.symm)))))
      have c172 : Fld Z h135 v_EXPLOSIVE "java/lang/Enum" "ordinal" "I" (.int (3 : Int32)) := ((((((((((((((((((Fv_EXPLOSIVE_ordinal.ext E1).other W7 (Or.inl (Nat.ne_of_lt (Nat.lt_of_lt_of_le Fv_EXPLOSIVE_ordinal.lt (Nat.le_of_eq g1.symm))))).other W15 (Or.inl (Nat.ne_of_lt (Nat.lt_of_lt_of_le Fv_EXPLOSIVE_ordinal.lt (Nat.le_of_eq g1.symm))))).other W23 (Or.inl (Nat.ne_of_lt (Nat.lt_of_lt_of_le Fv_EXPLOSIVE_ordinal.lt (Nat.le_of_eq g1.symm))))).other W31 (Or.inl (Nat.ne_of_lt (Nat.lt_of_lt_of_le Fv_EXPLOSIVE_ordinal.lt (Nat.le_of_eq g1.symm))))).other W39 (Or.inl (Nat.ne_of_lt (Nat.lt_of_lt_of_le Fv_EXPLOSIVE_ordinal.lt (Nat.le_of_eq g1.symm))))).other W47 (Or.inl (Nat.ne_of_lt (Nat.lt_of_lt_of_le Fv_EXPLOSIVE_ordinal.lt (Nat.le_of_eq g1.symm))))).other W55 (Or.inl (Nat.ne_of_lt (Nat.lt_of_lt_of_le Fv_EXPLOSIVE_ordinal.lt (Nat.le_of_eq g1.symm))))).other W63 (Or.inl (Nat.ne_of_lt (Nat.lt_of_lt_of_le Fv_EXPLOSIVE_ordinal.lt (Nat.le_of_eq g1.symm))))).other W71 (Or.inl (Nat.ne_of_lt (Nat.lt_of_lt_of_le Fv_EXPLOSIVE_ordinal.lt (Nat.le_of_eq g1.symm))))).other W79 (Or.inl (Nat.ne_of_lt (Nat.lt_of_lt_of_le Fv_EXPLOSIVE_ordinal.lt (Nat.le_of_eq g1.symm))))).other W87 (Or.inl (Nat.ne_of_lt (Nat.lt_of_lt_of_le Fv_EXPLOSIVE_ordinal.lt (Nat.le_of_eq g1.symm))))).other W95 (Or.inl (Nat.ne_of_lt (Nat.lt_of_lt_of_le Fv_EXPLOSIVE_ordinal.lt (Nat.le_of_eq g1.symm))))).other W103 (Or.inl (Nat.ne_of_lt (Nat.lt_of_lt_of_le Fv_EXPLOSIVE_ordinal.lt (Nat.le_of_eq g1.symm))))).other W111 (Or.inl (Nat.ne_of_lt (Nat.lt_of_lt_of_le Fv_EXPLOSIVE_ordinal.lt (Nat.le_of_eq g1.symm))))).other W119 (Or.inl (Nat.ne_of_lt (Nat.lt_of_lt_of_le Fv_EXPLOSIVE_ordinal.lt (Nat.le_of_eq g1.symm))))).other W127 (Or.inl (Nat.ne_of_lt (Nat.lt_of_lt_of_le Fv_EXPLOSIVE_ordinal.lt (Nat.le_of_eq g1.symm))))).other W135 (Or.inl (Nat.ne_of_lt (Nat.lt_of_lt_of_le Fv_EXPLOSIVE_ordinal.lt (Nat.le_of_eq g1.symm)))))
      exact ⟨v_EXPLOSIVE, rfl, N138, K136, c170, (by rw [hq121_143, own_dc3]; exact c171), (by rw [hq121_143]; exact c172), (fun q => absurd (hq121_143.symm.trans q) (by decide))⟩
  · skip
    have hq121_144_0 : ¬ p0 = (0 : Int32) := by rw [hq121_144]; decide
    have hq121_144_1 : ¬ p0 = (1 : Int32) := by rw [hq121_144]; decide
    have hq121_144_2 : ¬ p0 = (2 : Int32) := by rw [hq121_144]; decide
    have hq121_144_3 : ¬ p0 = (3 : Int32) := by rw [hq121_144]; decide
    obtain ⟨cl173, Ar173, q173, S_173, N_173, H173, G173⟩ := c137
    have hin173 : ¬ (p0 < 0 ∨ cl173.slots.size ≤ (p0).toNatClampNeg) := inb_of S_173 ⟨by rw [hq121_144]; decide, by rw [hq121_144]; decide⟩
    have hat173 : cl173.slots[(p0).toNatClampNeg]? = some (.ref v_STEEL_FIST) := Has.at H173 hin173 (by rw [hq121_144]; rfl)
    obtain ⟨fs, hrT, hrunT, hendT, hWT, hsameT⟩ := X135.leave (v := some (.ref v_STEEL_FIST)) (fun h => by rw [Bd.returns] at h; cases h)
    refine ⟨_, _, S139 _ ?_, hrunT, hendT, _, _, rfl, ?_, ⟨_, rfl⟩, hWT, hsameT.mono (by decide) (by decide)⟩
    · show Steps p.tables e below (T135.setTop (mkF m 121 #[.val (.int p0), .val (.ref b1)] [(.int p0), (.ref b1)])) _
      refine X135.aaload hx (j := p0) (v := (.ref v_STEEL_FIST)) (by rw [e135]; exact Ar173.1) (State.isArrayOf_alike hZ.alike Ar173.2.1) rfl Ar173.2.2 hin173 hat173 (g := (mkF m 121 #[.val (.int p0), .val (.ref b1)] [(.int p0), (.ref b1)])) rfl rfl (hb hby d1_121) _ ?_
      show Steps p.tables e below (T135.setTop (mkF m 122 #[.val (.int p0), .val (.ref b1)] [(.ref v_STEEL_FIST)])) _
      exact retOut X135 hx Bd.returns rfl (by right; right; right; right; exact ⟨rfl, rfl, rfl⟩) (hb hby d1_122) hrT
    · show Q1 Z p0 v_VENAL v_DEADLY v_EAGLE_EYE v_EXPLOSIVE v_STEEL_FIST v_TYRANT v_FOREMAN v_GREEDY v_ELUSIVE v_STEALTHY v_UNPREDICTABLE v_BROTHER v_UNFATHOMABLE v_FORTUNATE v_MERCHANT v_SEER v_HEADHUNTER v_WARRIOR v_HUNTER v_MINER v_BLACKSMITH v_EXPLORER h0 n0 _ T135.heap _
      rw [e135]
      have c174 : Exa Z h135 v_STEEL_FIST "com/example/runehall/runehall/tavern/Hero" := (((((((((((((c38.wr W39).wr W47).wr W55).wr W63).wr W71).wr W79).wr W87).wr W95).wr W103).wr W111).wr W119).wr W127).wr W135)
      have c175 : Fld Z h135 v_STEEL_FIST "com/example/runehall/runehall/tavern/Hero" "dwarfClass" "Lcom/example/runehall/runehall/tavern/DwarfClass;" (.ref v_BLACKSMITH) := ((((((((((((((((((Fv_STEEL_FIST_dwarfClass.ext E1).other W7 (Or.inl (Nat.ne_of_lt (Nat.lt_of_lt_of_le Fv_STEEL_FIST_ordinal.lt (Nat.le_of_eq g1.symm))))).other W15 (Or.inl (Nat.ne_of_lt (Nat.lt_of_lt_of_le Fv_STEEL_FIST_ordinal.lt (Nat.le_of_eq g1.symm))))).other W23 (Or.inl (Nat.ne_of_lt (Nat.lt_of_lt_of_le Fv_STEEL_FIST_ordinal.lt (Nat.le_of_eq g1.symm))))).other W31 (Or.inl (Nat.ne_of_lt (Nat.lt_of_lt_of_le Fv_STEEL_FIST_ordinal.lt (Nat.le_of_eq g1.symm))))).other W39 (Or.inl (Nat.ne_of_lt (Nat.lt_of_lt_of_le Fv_STEEL_FIST_ordinal.lt (Nat.le_of_eq g1.symm))))).other W47 (Or.inl (Nat.ne_of_lt (Nat.lt_of_lt_of_le Fv_STEEL_FIST_ordinal.lt (Nat.le_of_eq g1.symm))))).other W55 (Or.inl (Nat.ne_of_lt (Nat.lt_of_lt_of_le Fv_STEEL_FIST_ordinal.lt (Nat.le_of_eq g1.symm))))).other W63 (Or.inl (Nat.ne_of_lt (Nat.lt_of_lt_of_le Fv_STEEL_FIST_ordinal.lt (Nat.le_of_eq g1.symm))))).other W71 (Or.inl (Nat.ne_of_lt (Nat.lt_of_lt_of_le Fv_STEEL_FIST_ordinal.lt (Nat.le_of_eq g1.symm))))).other W79 (Or.inl (Nat.ne_of_lt (Nat.lt_of_lt_of_le Fv_STEEL_FIST_ordinal.lt (Nat.le_of_eq g1.symm))))).other W87 (Or.inl (Nat.ne_of_lt (Nat.lt_of_lt_of_le Fv_STEEL_FIST_ordinal.lt (Nat.le_of_eq g1.symm))))).other W95 (Or.inl (Nat.ne_of_lt (Nat.lt_of_lt_of_le Fv_STEEL_FIST_ordinal.lt (Nat.le_of_eq g1.symm))))).other W103 (Or.inl (Nat.ne_of_lt (Nat.lt_of_lt_of_le Fv_STEEL_FIST_ordinal.lt (Nat.le_of_eq g1.symm))))).other W111 (Or.inl (Nat.ne_of_lt (Nat.lt_of_lt_of_le Fv_STEEL_FIST_ordinal.lt (Nat.le_of_eq g1.symm))))).other W119 (Or.inl (Nat.ne_of_lt (Nat.lt_of_lt_of_le Fv_STEEL_FIST_ordinal.lt (Nat.le_of_eq g1.symm))))).other W127 (Or.inl (Nat.ne_of_lt (Nat.lt_of_lt_of_le Fv_STEEL_FIST_ordinal.lt (Nat.le_of_eq g1.symm))))).other W135 (Or.inl (Nat.ne_of_lt (Nat.lt_of_lt_of_le Fv_STEEL_FIST_ordinal.lt (Nat.le_of_eq g1.symm)))))
      have c176 : Fld Z h135 v_STEEL_FIST "java/lang/Enum" "ordinal" "I" (.int (4 : Int32)) := ((((((((((((((((((Fv_STEEL_FIST_ordinal.ext E1).other W7 (Or.inl (Nat.ne_of_lt (Nat.lt_of_lt_of_le Fv_STEEL_FIST_ordinal.lt (Nat.le_of_eq g1.symm))))).other W15 (Or.inl (Nat.ne_of_lt (Nat.lt_of_lt_of_le Fv_STEEL_FIST_ordinal.lt (Nat.le_of_eq g1.symm))))).other W23 (Or.inl (Nat.ne_of_lt (Nat.lt_of_lt_of_le Fv_STEEL_FIST_ordinal.lt (Nat.le_of_eq g1.symm))))).other W31 (Or.inl (Nat.ne_of_lt (Nat.lt_of_lt_of_le Fv_STEEL_FIST_ordinal.lt (Nat.le_of_eq g1.symm))))).other W39 (Or.inl (Nat.ne_of_lt (Nat.lt_of_lt_of_le Fv_STEEL_FIST_ordinal.lt (Nat.le_of_eq g1.symm))))).other W47 (Or.inl (Nat.ne_of_lt (Nat.lt_of_lt_of_le Fv_STEEL_FIST_ordinal.lt (Nat.le_of_eq g1.symm))))).other W55 (Or.inl (Nat.ne_of_lt (Nat.lt_of_lt_of_le Fv_STEEL_FIST_ordinal.lt (Nat.le_of_eq g1.symm))))).other W63 (Or.inl (Nat.ne_of_lt (Nat.lt_of_lt_of_le Fv_STEEL_FIST_ordinal.lt (Nat.le_of_eq g1.symm))))).other W71 (Or.inl (Nat.ne_of_lt (Nat.lt_of_lt_of_le Fv_STEEL_FIST_ordinal.lt (Nat.le_of_eq g1.symm))))).other W79 (Or.inl (Nat.ne_of_lt (Nat.lt_of_lt_of_le Fv_STEEL_FIST_ordinal.lt (Nat.le_of_eq g1.symm))))).other W87 (Or.inl (Nat.ne_of_lt (Nat.lt_of_lt_of_le Fv_STEEL_FIST_ordinal.lt (Nat.le_of_eq g1.symm))))).other W95 (Or.inl (Nat.ne_of_lt (Nat.lt_of_lt_of_le Fv_STEEL_FIST_ordinal.lt (Nat.le_of_eq g1.symm))))).other W103 (Or.inl (Nat.ne_of_lt (Nat.lt_of_lt_of_le Fv_STEEL_FIST_ordinal.lt (Nat.le_of_eq g1.symm))))).other W111 (Or.inl (Nat.ne_of_lt (Nat.lt_of_lt_of_le Fv_STEEL_FIST_ordinal.lt (Nat.le_of_eq g1.symm))))).other W119 (Or.inl (Nat.ne_of_lt (Nat.lt_of_lt_of_le Fv_STEEL_FIST_ordinal.lt (Nat.le_of_eq g1.symm))))).other W127 (Or.inl (Nat.ne_of_lt (Nat.lt_of_lt_of_le Fv_STEEL_FIST_ordinal.lt (Nat.le_of_eq g1.symm))))).other W135 (Or.inl (Nat.ne_of_lt (Nat.lt_of_lt_of_le Fv_STEEL_FIST_ordinal.lt (Nat.le_of_eq g1.symm)))))
      exact ⟨v_STEEL_FIST, rfl, N138, K136, c174, (by rw [hq121_144, own_dc4]; exact c175), (by rw [hq121_144]; exact c176), (fun q => absurd (hq121_144.symm.trans q) (by decide))⟩
  · skip
    have hq121_145_0 : ¬ p0 = (0 : Int32) := by rw [hq121_145]; decide
    have hq121_145_1 : ¬ p0 = (1 : Int32) := by rw [hq121_145]; decide
    have hq121_145_2 : ¬ p0 = (2 : Int32) := by rw [hq121_145]; decide
    have hq121_145_3 : ¬ p0 = (3 : Int32) := by rw [hq121_145]; decide
    have hq121_145_4 : ¬ p0 = (4 : Int32) := by rw [hq121_145]; decide
    obtain ⟨cl177, Ar177, q177, S_177, N_177, H177, G177⟩ := c137
    have hin177 : ¬ (p0 < 0 ∨ cl177.slots.size ≤ (p0).toNatClampNeg) := inb_of S_177 ⟨by rw [hq121_145]; decide, by rw [hq121_145]; decide⟩
    have hat177 : cl177.slots[(p0).toNatClampNeg]? = some (.ref v_TYRANT) := Has.at H177 hin177 (by rw [hq121_145]; rfl)
    obtain ⟨fs, hrT, hrunT, hendT, hWT, hsameT⟩ := X135.leave (v := some (.ref v_TYRANT)) (fun h => by rw [Bd.returns] at h; cases h)
    refine ⟨_, _, S139 _ ?_, hrunT, hendT, _, _, rfl, ?_, ⟨_, rfl⟩, hWT, hsameT.mono (by decide) (by decide)⟩
    · show Steps p.tables e below (T135.setTop (mkF m 121 #[.val (.int p0), .val (.ref b1)] [(.int p0), (.ref b1)])) _
      refine X135.aaload hx (j := p0) (v := (.ref v_TYRANT)) (by rw [e135]; exact Ar177.1) (State.isArrayOf_alike hZ.alike Ar177.2.1) rfl Ar177.2.2 hin177 hat177 (g := (mkF m 121 #[.val (.int p0), .val (.ref b1)] [(.int p0), (.ref b1)])) rfl rfl (hb hby d1_121) _ ?_
      show Steps p.tables e below (T135.setTop (mkF m 122 #[.val (.int p0), .val (.ref b1)] [(.ref v_TYRANT)])) _
      exact retOut X135 hx Bd.returns rfl (by right; right; right; right; exact ⟨rfl, rfl, rfl⟩) (hb hby d1_122) hrT
    · show Q1 Z p0 v_VENAL v_DEADLY v_EAGLE_EYE v_EXPLOSIVE v_STEEL_FIST v_TYRANT v_FOREMAN v_GREEDY v_ELUSIVE v_STEALTHY v_UNPREDICTABLE v_BROTHER v_UNFATHOMABLE v_FORTUNATE v_MERCHANT v_SEER v_HEADHUNTER v_WARRIOR v_HUNTER v_MINER v_BLACKSMITH v_EXPLORER h0 n0 _ T135.heap _
      rw [e135]
      have c178 : Exa Z h135 v_TYRANT "com/example/runehall/runehall/tavern/Hero" := ((((((((((((c46.wr W47).wr W55).wr W63).wr W71).wr W79).wr W87).wr W95).wr W103).wr W111).wr W119).wr W127).wr W135)
      have c179 : Fld Z h135 v_TYRANT "com/example/runehall/runehall/tavern/Hero" "dwarfClass" "Lcom/example/runehall/runehall/tavern/DwarfClass;" (.ref v_BLACKSMITH) := ((((((((((((((((((Fv_TYRANT_dwarfClass.ext E1).other W7 (Or.inl (Nat.ne_of_lt (Nat.lt_of_lt_of_le Fv_TYRANT_ordinal.lt (Nat.le_of_eq g1.symm))))).other W15 (Or.inl (Nat.ne_of_lt (Nat.lt_of_lt_of_le Fv_TYRANT_ordinal.lt (Nat.le_of_eq g1.symm))))).other W23 (Or.inl (Nat.ne_of_lt (Nat.lt_of_lt_of_le Fv_TYRANT_ordinal.lt (Nat.le_of_eq g1.symm))))).other W31 (Or.inl (Nat.ne_of_lt (Nat.lt_of_lt_of_le Fv_TYRANT_ordinal.lt (Nat.le_of_eq g1.symm))))).other W39 (Or.inl (Nat.ne_of_lt (Nat.lt_of_lt_of_le Fv_TYRANT_ordinal.lt (Nat.le_of_eq g1.symm))))).other W47 (Or.inl (Nat.ne_of_lt (Nat.lt_of_lt_of_le Fv_TYRANT_ordinal.lt (Nat.le_of_eq g1.symm))))).other W55 (Or.inl (Nat.ne_of_lt (Nat.lt_of_lt_of_le Fv_TYRANT_ordinal.lt (Nat.le_of_eq g1.symm))))).other W63 (Or.inl (Nat.ne_of_lt (Nat.lt_of_lt_of_le Fv_TYRANT_ordinal.lt (Nat.le_of_eq g1.symm))))).other W71 (Or.inl (Nat.ne_of_lt (Nat.lt_of_lt_of_le Fv_TYRANT_ordinal.lt (Nat.le_of_eq g1.symm))))).other W79 (Or.inl (Nat.ne_of_lt (Nat.lt_of_lt_of_le Fv_TYRANT_ordinal.lt (Nat.le_of_eq g1.symm))))).other W87 (Or.inl (Nat.ne_of_lt (Nat.lt_of_lt_of_le Fv_TYRANT_ordinal.lt (Nat.le_of_eq g1.symm))))).other W95 (Or.inl (Nat.ne_of_lt (Nat.lt_of_lt_of_le Fv_TYRANT_ordinal.lt (Nat.le_of_eq g1.symm))))).other W103 (Or.inl (Nat.ne_of_lt (Nat.lt_of_lt_of_le Fv_TYRANT_ordinal.lt (Nat.le_of_eq g1.symm))))).other W111 (Or.inl (Nat.ne_of_lt (Nat.lt_of_lt_of_le Fv_TYRANT_ordinal.lt (Nat.le_of_eq g1.symm))))).other W119 (Or.inl (Nat.ne_of_lt (Nat.lt_of_lt_of_le Fv_TYRANT_ordinal.lt (Nat.le_of_eq g1.symm))))).other W127 (Or.inl (Nat.ne_of_lt (Nat.lt_of_lt_of_le Fv_TYRANT_ordinal.lt (Nat.le_of_eq g1.symm))))).other W135 (Or.inl (Nat.ne_of_lt (Nat.lt_of_lt_of_le Fv_TYRANT_ordinal.lt (Nat.le_of_eq g1.symm)))))
      have c180 : Fld Z h135 v_TYRANT "java/lang/Enum" "ordinal" "I" (.int (5 : Int32)) := ((((((((((((((((((Fv_TYRANT_ordinal.ext E1).other W7 (Or.inl (Nat.ne_of_lt (Nat.lt_of_lt_of_le Fv_TYRANT_ordinal.lt (Nat.le_of_eq g1.symm))))).other W15 (Or.inl (Nat.ne_of_lt (Nat.lt_of_lt_of_le Fv_TYRANT_ordinal.lt (Nat.le_of_eq g1.symm))))).other W23 (Or.inl (Nat.ne_of_lt (Nat.lt_of_lt_of_le Fv_TYRANT_ordinal.lt (Nat.le_of_eq g1.symm))))).other W31 (Or.inl (Nat.ne_of_lt (Nat.lt_of_lt_of_le Fv_TYRANT_ordinal.lt (Nat.le_of_eq g1.symm))))).other W39 (Or.inl (Nat.ne_of_lt (Nat.lt_of_lt_of_le Fv_TYRANT_ordinal.lt (Nat.le_of_eq g1.symm))))).other W47 (Or.inl (Nat.ne_of_lt (Nat.lt_of_lt_of_le Fv_TYRANT_ordinal.lt (Nat.le_of_eq g1.symm))))).other W55 (Or.inl (Nat.ne_of_lt (Nat.lt_of_lt_of_le Fv_TYRANT_ordinal.lt (Nat.le_of_eq g1.symm))))).other W63 (Or.inl (Nat.ne_of_lt (Nat.lt_of_lt_of_le Fv_TYRANT_ordinal.lt (Nat.le_of_eq g1.symm))))).other W71 (Or.inl (Nat.ne_of_lt (Nat.lt_of_lt_of_le Fv_TYRANT_ordinal.lt (Nat.le_of_eq g1.symm))))).other W79 (Or.inl (Nat.ne_of_lt (Nat.lt_of_lt_of_le Fv_TYRANT_ordinal.lt (Nat.le_of_eq g1.symm))))).other W87 (Or.inl (Nat.ne_of_lt (Nat.lt_of_lt_of_le Fv_TYRANT_ordinal.lt (Nat.le_of_eq g1.symm))))).other W95 (Or.inl (Nat.ne_of_lt (Nat.lt_of_lt_of_le Fv_TYRANT_ordinal.lt (Nat.le_of_eq g1.symm))))).other W103 (Or.inl (Nat.ne_of_lt (Nat.lt_of_lt_of_le Fv_TYRANT_ordinal.lt (Nat.le_of_eq g1.symm))))).other W111 (Or.inl (Nat.ne_of_lt (Nat.lt_of_lt_of_le Fv_TYRANT_ordinal.lt (Nat.le_of_eq g1.symm))))).other W119 (Or.inl (Nat.ne_of_lt (Nat.lt_of_lt_of_le Fv_TYRANT_ordinal.lt (Nat.le_of_eq g1.symm))))).other W127 (Or.inl (Nat.ne_of_lt (Nat.lt_of_lt_of_le Fv_TYRANT_ordinal.lt (Nat.le_of_eq g1.symm))))).other W135 (Or.inl (Nat.ne_of_lt (Nat.lt_of_lt_of_le Fv_TYRANT_ordinal.lt (Nat.le_of_eq g1.symm)))))
      exact ⟨v_TYRANT, rfl, N138, K136, c178, (by rw [hq121_145, own_dc5]; exact c179), (by rw [hq121_145]; exact c180), (fun q => absurd (hq121_145.symm.trans q) (by decide))⟩
  · skip
    have hq121_146_0 : ¬ p0 = (0 : Int32) := by rw [hq121_146]; decide
    have hq121_146_1 : ¬ p0 = (1 : Int32) := by rw [hq121_146]; decide
    have hq121_146_2 : ¬ p0 = (2 : Int32) := by rw [hq121_146]; decide
    have hq121_146_3 : ¬ p0 = (3 : Int32) := by rw [hq121_146]; decide
    have hq121_146_4 : ¬ p0 = (4 : Int32) := by rw [hq121_146]; decide
    have hq121_146_5 : ¬ p0 = (5 : Int32) := by rw [hq121_146]; decide
    obtain ⟨cl181, Ar181, q181, S_181, N_181, H181, G181⟩ := c137
    have hin181 : ¬ (p0 < 0 ∨ cl181.slots.size ≤ (p0).toNatClampNeg) := inb_of S_181 ⟨by rw [hq121_146]; decide, by rw [hq121_146]; decide⟩
    have hat181 : cl181.slots[(p0).toNatClampNeg]? = some (.ref v_FOREMAN) := Has.at H181 hin181 (by rw [hq121_146]; rfl)
    obtain ⟨fs, hrT, hrunT, hendT, hWT, hsameT⟩ := X135.leave (v := some (.ref v_FOREMAN)) (fun h => by rw [Bd.returns] at h; cases h)
    refine ⟨_, _, S139 _ ?_, hrunT, hendT, _, _, rfl, ?_, ⟨_, rfl⟩, hWT, hsameT.mono (by decide) (by decide)⟩
    · show Steps p.tables e below (T135.setTop (mkF m 121 #[.val (.int p0), .val (.ref b1)] [(.int p0), (.ref b1)])) _
      refine X135.aaload hx (j := p0) (v := (.ref v_FOREMAN)) (by rw [e135]; exact Ar181.1) (State.isArrayOf_alike hZ.alike Ar181.2.1) rfl Ar181.2.2 hin181 hat181 (g := (mkF m 121 #[.val (.int p0), .val (.ref b1)] [(.int p0), (.ref b1)])) rfl rfl (hb hby d1_121) _ ?_
      show Steps p.tables e below (T135.setTop (mkF m 122 #[.val (.int p0), .val (.ref b1)] [(.ref v_FOREMAN)])) _
      exact retOut X135 hx Bd.returns rfl (by right; right; right; right; exact ⟨rfl, rfl, rfl⟩) (hb hby d1_122) hrT
    · show Q1 Z p0 v_VENAL v_DEADLY v_EAGLE_EYE v_EXPLOSIVE v_STEEL_FIST v_TYRANT v_FOREMAN v_GREEDY v_ELUSIVE v_STEALTHY v_UNPREDICTABLE v_BROTHER v_UNFATHOMABLE v_FORTUNATE v_MERCHANT v_SEER v_HEADHUNTER v_WARRIOR v_HUNTER v_MINER v_BLACKSMITH v_EXPLORER h0 n0 _ T135.heap _
      rw [e135]
      have c182 : Exa Z h135 v_FOREMAN "com/example/runehall/runehall/tavern/Hero" := (((((((((((c54.wr W55).wr W63).wr W71).wr W79).wr W87).wr W95).wr W103).wr W111).wr W119).wr W127).wr W135)
      have c183 : Fld Z h135 v_FOREMAN "com/example/runehall/runehall/tavern/Hero" "dwarfClass" "Lcom/example/runehall/runehall/tavern/DwarfClass;" (.ref v_MINER) := ((((((((((((((((((Fv_FOREMAN_dwarfClass.ext E1).other W7 (Or.inl (Nat.ne_of_lt (Nat.lt_of_lt_of_le Fv_FOREMAN_ordinal.lt (Nat.le_of_eq g1.symm))))).other W15 (Or.inl (Nat.ne_of_lt (Nat.lt_of_lt_of_le Fv_FOREMAN_ordinal.lt (Nat.le_of_eq g1.symm))))).other W23 (Or.inl (Nat.ne_of_lt (Nat.lt_of_lt_of_le Fv_FOREMAN_ordinal.lt (Nat.le_of_eq g1.symm))))).other W31 (Or.inl (Nat.ne_of_lt (Nat.lt_of_lt_of_le Fv_FOREMAN_ordinal.lt (Nat.le_of_eq g1.symm))))).other W39 (Or.inl (Nat.ne_of_lt (Nat.lt_of_lt_of_le Fv_FOREMAN_ordinal.lt (Nat.le_of_eq g1.symm))))).other W47 (Or.inl (Nat.ne_of_lt (Nat.lt_of_lt_of_le Fv_FOREMAN_ordinal.lt (Nat.le_of_eq g1.symm))))).other W55 (Or.inl (Nat.ne_of_lt (Nat.lt_of_lt_of_le Fv_FOREMAN_ordinal.lt (Nat.le_of_eq g1.symm))))).other W63 (Or.inl (Nat.ne_of_lt (Nat.lt_of_lt_of_le Fv_FOREMAN_ordinal.lt (Nat.le_of_eq g1.symm))))).other W71 (Or.inl (Nat.ne_of_lt (Nat.lt_of_lt_of_le Fv_FOREMAN_ordinal.lt (Nat.le_of_eq g1.symm))))).other W79 (Or.inl (Nat.ne_of_lt (Nat.lt_of_lt_of_le Fv_FOREMAN_ordinal.lt (Nat.le_of_eq g1.symm))))).other W87 (Or.inl (Nat.ne_of_lt (Nat.lt_of_lt_of_le Fv_FOREMAN_ordinal.lt (Nat.le_of_eq g1.symm))))).other W95 (Or.inl (Nat.ne_of_lt (Nat.lt_of_lt_of_le Fv_FOREMAN_ordinal.lt (Nat.le_of_eq g1.symm))))).other W103 (Or.inl (Nat.ne_of_lt (Nat.lt_of_lt_of_le Fv_FOREMAN_ordinal.lt (Nat.le_of_eq g1.symm))))).other W111 (Or.inl (Nat.ne_of_lt (Nat.lt_of_lt_of_le Fv_FOREMAN_ordinal.lt (Nat.le_of_eq g1.symm))))).other W119 (Or.inl (Nat.ne_of_lt (Nat.lt_of_lt_of_le Fv_FOREMAN_ordinal.lt (Nat.le_of_eq g1.symm))))).other W127 (Or.inl (Nat.ne_of_lt (Nat.lt_of_lt_of_le Fv_FOREMAN_ordinal.lt (Nat.le_of_eq g1.symm))))).other W135 (Or.inl (Nat.ne_of_lt (Nat.lt_of_lt_of_le Fv_FOREMAN_ordinal.lt (Nat.le_of_eq g1.symm)))))
      have c184 : Fld Z h135 v_FOREMAN "java/lang/Enum" "ordinal" "I" (.int (6 : Int32)) := ((((((((((((((((((Fv_FOREMAN_ordinal.ext E1).other W7 (Or.inl (Nat.ne_of_lt (Nat.lt_of_lt_of_le Fv_FOREMAN_ordinal.lt (Nat.le_of_eq g1.symm))))).other W15 (Or.inl (Nat.ne_of_lt (Nat.lt_of_lt_of_le Fv_FOREMAN_ordinal.lt (Nat.le_of_eq g1.symm))))).other W23 (Or.inl (Nat.ne_of_lt (Nat.lt_of_lt_of_le Fv_FOREMAN_ordinal.lt (Nat.le_of_eq g1.symm))))).other W31 (Or.inl (Nat.ne_of_lt (Nat.lt_of_lt_of_le Fv_FOREMAN_ordinal.lt (Nat.le_of_eq g1.symm))))).other W39 (Or.inl (Nat.ne_of_lt (Nat.lt_of_lt_of_le Fv_FOREMAN_ordinal.lt (Nat.le_of_eq g1.symm))))).other W47 (Or.inl (Nat.ne_of_lt (Nat.lt_of_lt_of_le Fv_FOREMAN_ordinal.lt (Nat.le_of_eq g1.symm))))).other W55 (Or.inl (Nat.ne_of_lt (Nat.lt_of_lt_of_le Fv_FOREMAN_ordinal.lt (Nat.le_of_eq g1.symm))))).other W63 (Or.inl (Nat.ne_of_lt (Nat.lt_of_lt_of_le Fv_FOREMAN_ordinal.lt (Nat.le_of_eq g1.symm))))).other W71 (Or.inl (Nat.ne_of_lt (Nat.lt_of_lt_of_le Fv_FOREMAN_ordinal.lt (Nat.le_of_eq g1.symm))))).other W79 (Or.inl (Nat.ne_of_lt (Nat.lt_of_lt_of_le Fv_FOREMAN_ordinal.lt (Nat.le_of_eq g1.symm))))).other W87 (Or.inl (Nat.ne_of_lt (Nat.lt_of_lt_of_le Fv_FOREMAN_ordinal.lt (Nat.le_of_eq g1.symm))))).other W95 (Or.inl (Nat.ne_of_lt (Nat.lt_of_lt_of_le Fv_FOREMAN_ordinal.lt (Nat.le_of_eq g1.symm))))).other W103 (Or.inl (Nat.ne_of_lt (Nat.lt_of_lt_of_le Fv_FOREMAN_ordinal.lt (Nat.le_of_eq g1.symm))))).other W111 (Or.inl (Nat.ne_of_lt (Nat.lt_of_lt_of_le Fv_FOREMAN_ordinal.lt (Nat.le_of_eq g1.symm))))).other W119 (Or.inl (Nat.ne_of_lt (Nat.lt_of_lt_of_le Fv_FOREMAN_ordinal.lt (Nat.le_of_eq g1.symm))))).other W127 (Or.inl (Nat.ne_of_lt (Nat.lt_of_lt_of_le Fv_FOREMAN_ordinal.lt (Nat.le_of_eq g1.symm))))).other W135 (Or.inl (Nat.ne_of_lt (Nat.lt_of_lt_of_le Fv_FOREMAN_ordinal.lt (Nat.le_of_eq g1.symm)))))
      exact ⟨v_FOREMAN, rfl, N138, K136, c182, (by rw [hq121_146, own_dc6]; exact c183), (by rw [hq121_146]; exact c184), (fun q => absurd (hq121_146.symm.trans q) (by decide))⟩
  · skip
    have hq121_147_0 : ¬ p0 = (0 : Int32) := by rw [hq121_147]; decide
    have hq121_147_1 : ¬ p0 = (1 : Int32) := by rw [hq121_147]; decide
    have hq121_147_2 : ¬ p0 = (2 : Int32) := by rw [hq121_147]; decide
    have hq121_147_3 : ¬ p0 = (3 : Int32) := by rw [hq121_147]; decide
    have hq121_147_4 : ¬ p0 = (4 : Int32) := by rw [hq121_147]; decide
    have hq121_147_5 : ¬ p0 = (5 : Int32) := by rw [hq121_147]; decide
    have hq121_147_6 : ¬ p0 = (6 : Int32) := by rw [hq121_147]; decide
    obtain ⟨cl185, Ar185, q185, S_185, N_185, H185, G185⟩ := c137
    have hin185 : ¬ (p0 < 0 ∨ cl185.slots.size ≤ (p0).toNatClampNeg) := inb_of S_185 ⟨by rw [hq121_147]; decide, by rw [hq121_147]; decide⟩
    have hat185 : cl185.slots[(p0).toNatClampNeg]? = some (.ref v_GREEDY) := Has.at H185 hin185 (by rw [hq121_147]; rfl)
    obtain ⟨fs, hrT, hrunT, hendT, hWT, hsameT⟩ := X135.leave (v := some (.ref v_GREEDY)) (fun h => by rw [Bd.returns] at h; cases h)
    refine ⟨_, _, S139 _ ?_, hrunT, hendT, _, _, rfl, ?_, ⟨_, rfl⟩, hWT, hsameT.mono (by decide) (by decide)⟩
    · show Steps p.tables e below (T135.setTop (mkF m 121 #[.val (.int p0), .val (.ref b1)] [(.int p0), (.ref b1)])) _
      refine X135.aaload hx (j := p0) (v := (.ref v_GREEDY)) (by rw [e135]; exact Ar185.1) (State.isArrayOf_alike hZ.alike Ar185.2.1) rfl Ar185.2.2 hin185 hat185 (g := (mkF m 121 #[.val (.int p0), .val (.ref b1)] [(.int p0), (.ref b1)])) rfl rfl (hb hby d1_121) _ ?_
      show Steps p.tables e below (T135.setTop (mkF m 122 #[.val (.int p0), .val (.ref b1)] [(.ref v_GREEDY)])) _
      exact retOut X135 hx Bd.returns rfl (by right; right; right; right; exact ⟨rfl, rfl, rfl⟩) (hb hby d1_122) hrT
    · show Q1 Z p0 v_VENAL v_DEADLY v_EAGLE_EYE v_EXPLOSIVE v_STEEL_FIST v_TYRANT v_FOREMAN v_GREEDY v_ELUSIVE v_STEALTHY v_UNPREDICTABLE v_BROTHER v_UNFATHOMABLE v_FORTUNATE v_MERCHANT v_SEER v_HEADHUNTER v_WARRIOR v_HUNTER v_MINER v_BLACKSMITH v_EXPLORER h0 n0 _ T135.heap _
      rw [e135]
      have c186 : Exa Z h135 v_GREEDY "com/example/runehall/runehall/tavern/Hero" := ((((((((((c62.wr W63).wr W71).wr W79).wr W87).wr W95).wr W103).wr W111).wr W119).wr W127).wr W135)
      have c187 : Fld Z h135 v_GREEDY "com/example/runehall/runehall/tavern/Hero" "dwarfClass" "Lcom/example/runehall/runehall/tavern/DwarfClass;" (.ref v_MINER) := ((((((((((((((((((Fv_GREEDY_dwarfClass.ext E1).other W7 (Or.inl (Nat.ne_of_lt (Nat.lt_of_lt_of_le Fv_GREEDY_ordinal.lt (Nat.le_of_eq g1.symm))))).other W15 (Or.inl (Nat.ne_of_lt (Nat.lt_of_lt_of_le Fv_GREEDY_ordinal.lt (Nat.le_of_eq g1.symm))))).other W23 (Or.inl (Nat.ne_of_lt (Nat.lt_of_lt_of_le Fv_GREEDY_ordinal.lt (Nat.le_of_eq g1.symm))))).other W31 (Or.inl (Nat.ne_of_lt (Nat.lt_of_lt_of_le Fv_GREEDY_ordinal.lt (Nat.le_of_eq g1.symm))))).other W39 (Or.inl (Nat.ne_of_lt (Nat.lt_of_lt_of_le Fv_GREEDY_ordinal.lt (Nat.le_of_eq g1.symm))))).other W47 (Or.inl (Nat.ne_of_lt (Nat.lt_of_lt_of_le Fv_GREEDY_ordinal.lt (Nat.le_of_eq g1.symm))))).other W55 (Or.inl (Nat.ne_of_lt (Nat.lt_of_lt_of_le Fv_GREEDY_ordinal.lt (Nat.le_of_eq g1.symm))))).other W63 (Or.inl (Nat.ne_of_lt (Nat.lt_of_lt_of_le Fv_GREEDY_ordinal.lt (Nat.le_of_eq g1.symm))))).other W71 (Or.inl (Nat.ne_of_lt (Nat.lt_of_lt_of_le Fv_GREEDY_ordinal.lt (Nat.le_of_eq g1.symm))))).other W79 (Or.inl (Nat.ne_of_lt (Nat.lt_of_lt_of_le Fv_GREEDY_ordinal.lt (Nat.le_of_eq g1.symm))))).other W87 (Or.inl (Nat.ne_of_lt (Nat.lt_of_lt_of_le Fv_GREEDY_ordinal.lt (Nat.le_of_eq g1.symm))))).other W95 (Or.inl (Nat.ne_of_lt (Nat.lt_of_lt_of_le Fv_GREEDY_ordinal.lt (Nat.le_of_eq g1.symm))))).other W103 (Or.inl (Nat.ne_of_lt (Nat.lt_of_lt_of_le Fv_GREEDY_ordinal.lt (Nat.le_of_eq g1.symm))))).other W111 (Or.inl (Nat.ne_of_lt (Nat.lt_of_lt_of_le Fv_GREEDY_ordinal.lt (Nat.le_of_eq g1.symm))))).other W119 (Or.inl (Nat.ne_of_lt (Nat.lt_of_lt_of_le Fv_GREEDY_ordinal.lt (Nat.le_of_eq g1.symm))))).other W127 (Or.inl (Nat.ne_of_lt (Nat.lt_of_lt_of_le Fv_GREEDY_ordinal.lt (Nat.le_of_eq g1.symm))))).other W135 (Or.inl (Nat.ne_of_lt (Nat.lt_of_lt_of_le Fv_GREEDY_ordinal.lt (Nat.le_of_eq g1.symm)))))
      have c188 : Fld Z h135 v_GREEDY "java/lang/Enum" "ordinal" "I" (.int (7 : Int32)) := ((((((((((((((((((Fv_GREEDY_ordinal.ext E1).other W7 (Or.inl (Nat.ne_of_lt (Nat.lt_of_lt_of_le Fv_GREEDY_ordinal.lt (Nat.le_of_eq g1.symm))))).other W15 (Or.inl (Nat.ne_of_lt (Nat.lt_of_lt_of_le Fv_GREEDY_ordinal.lt (Nat.le_of_eq g1.symm))))).other W23 (Or.inl (Nat.ne_of_lt (Nat.lt_of_lt_of_le Fv_GREEDY_ordinal.lt (Nat.le_of_eq g1.symm))))).other W31 (Or.inl (Nat.ne_of_lt (Nat.lt_of_lt_of_le Fv_GREEDY_ordinal.lt (Nat.le_of_eq g1.symm))))).other W39 (Or.inl (Nat.ne_of_lt (Nat.lt_of_lt_of_le Fv_GREEDY_ordinal.lt (Nat.le_of_eq g1.symm))))).other W47 (Or.inl (Nat.ne_of_lt (Nat.lt_of_lt_of_le Fv_GREEDY_ordinal.lt (Nat.le_of_eq g1.symm))))).other W55 (Or.inl (Nat.ne_of_lt (Nat.lt_of_lt_of_le Fv_GREEDY_ordinal.lt (Nat.le_of_eq g1.symm))))).other W63 (Or.inl (Nat.ne_of_lt (Nat.lt_of_lt_of_le Fv_GREEDY_ordinal.lt (Nat.le_of_eq g1.symm))))).other W71 (Or.inl (Nat.ne_of_lt (Nat.lt_of_lt_of_le Fv_GREEDY_ordinal.lt (Nat.le_of_eq g1.symm))))).other W79 (Or.inl (Nat.ne_of_lt (Nat.lt_of_lt_of_le Fv_GREEDY_ordinal.lt (Nat.le_of_eq g1.symm))))).other W87 (Or.inl (Nat.ne_of_lt (Nat.lt_of_lt_of_le Fv_GREEDY_ordinal.lt (Nat.le_of_eq g1.symm))))).other W95 (Or.inl (Nat.ne_of_lt (Nat.lt_of_lt_of_le Fv_GREEDY_ordinal.lt (Nat.le_of_eq g1.symm))))).other W103 (Or.inl (Nat.ne_of_lt (Nat.lt_of_lt_of_le Fv_GREEDY_ordinal.lt (Nat.le_of_eq g1.symm))))).other W111 (Or.inl (Nat.ne_of_lt (Nat.lt_of_lt_of_le Fv_GREEDY_ordinal.lt (Nat.le_of_eq g1.symm))))).other W119 (Or.inl (Nat.ne_of_lt (Nat.lt_of_lt_of_le Fv_GREEDY_ordinal.lt (Nat.le_of_eq g1.symm))))).other W127 (Or.inl (Nat.ne_of_lt (Nat.lt_of_lt_of_le Fv_GREEDY_ordinal.lt (Nat.le_of_eq g1.symm))))).other W135 (Or.inl (Nat.ne_of_lt (Nat.lt_of_lt_of_le Fv_GREEDY_ordinal.lt (Nat.le_of_eq g1.symm)))))
      exact ⟨v_GREEDY, rfl, N138, K136, c186, (by rw [hq121_147, own_dc7]; exact c187), (by rw [hq121_147]; exact c188), (fun q => absurd (hq121_147.symm.trans q) (by decide))⟩
  · skip
    have hq121_148_0 : ¬ p0 = (0 : Int32) := by rw [hq121_148]; decide
    have hq121_148_1 : ¬ p0 = (1 : Int32) := by rw [hq121_148]; decide
    have hq121_148_2 : ¬ p0 = (2 : Int32) := by rw [hq121_148]; decide
    have hq121_148_3 : ¬ p0 = (3 : Int32) := by rw [hq121_148]; decide
    have hq121_148_4 : ¬ p0 = (4 : Int32) := by rw [hq121_148]; decide
    have hq121_148_5 : ¬ p0 = (5 : Int32) := by rw [hq121_148]; decide
    have hq121_148_6 : ¬ p0 = (6 : Int32) := by rw [hq121_148]; decide
    have hq121_148_7 : ¬ p0 = (7 : Int32) := by rw [hq121_148]; decide
    obtain ⟨cl189, Ar189, q189, S_189, N_189, H189, G189⟩ := c137
    have hin189 : ¬ (p0 < 0 ∨ cl189.slots.size ≤ (p0).toNatClampNeg) := inb_of S_189 ⟨by rw [hq121_148]; decide, by rw [hq121_148]; decide⟩
    have hat189 : cl189.slots[(p0).toNatClampNeg]? = some (.ref v_ELUSIVE) := Has.at H189 hin189 (by rw [hq121_148]; rfl)
    obtain ⟨fs, hrT, hrunT, hendT, hWT, hsameT⟩ := X135.leave (v := some (.ref v_ELUSIVE)) (fun h => by rw [Bd.returns] at h; cases h)
    refine ⟨_, _, S139 _ ?_, hrunT, hendT, _, _, rfl, ?_, ⟨_, rfl⟩, hWT, hsameT.mono (by decide) (by decide)⟩
    · show Steps p.tables e below (T135.setTop (mkF m 121 #[.val (.int p0), .val (.ref b1)] [(.int p0), (.ref b1)])) _
      refine X135.aaload hx (j := p0) (v := (.ref v_ELUSIVE)) (by rw [e135]; exact Ar189.1) (State.isArrayOf_alike hZ.alike Ar189.2.1) rfl Ar189.2.2 hin189 hat189 (g := (mkF m 121 #[.val (.int p0), .val (.ref b1)] [(.int p0), (.ref b1)])) rfl rfl (hb hby d1_121) _ ?_
      show Steps p.tables e below (T135.setTop (mkF m 122 #[.val (.int p0), .val (.ref b1)] [(.ref v_ELUSIVE)])) _
      exact retOut X135 hx Bd.returns rfl (by right; right; right; right; exact ⟨rfl, rfl, rfl⟩) (hb hby d1_122) hrT
    · show Q1 Z p0 v_VENAL v_DEADLY v_EAGLE_EYE v_EXPLOSIVE v_STEEL_FIST v_TYRANT v_FOREMAN v_GREEDY v_ELUSIVE v_STEALTHY v_UNPREDICTABLE v_BROTHER v_UNFATHOMABLE v_FORTUNATE v_MERCHANT v_SEER v_HEADHUNTER v_WARRIOR v_HUNTER v_MINER v_BLACKSMITH v_EXPLORER h0 n0 _ T135.heap _
      rw [e135]
      have c190 : Exa Z h135 v_ELUSIVE "com/example/runehall/runehall/tavern/Hero" := (((((((((c70.wr W71).wr W79).wr W87).wr W95).wr W103).wr W111).wr W119).wr W127).wr W135)
      have c191 : Fld Z h135 v_ELUSIVE "com/example/runehall/runehall/tavern/Hero" "dwarfClass" "Lcom/example/runehall/runehall/tavern/DwarfClass;" (.ref v_EXPLORER) := ((((((((((((((((((Fv_ELUSIVE_dwarfClass.ext E1).other W7 (Or.inl (Nat.ne_of_lt (Nat.lt_of_lt_of_le Fv_ELUSIVE_ordinal.lt (Nat.le_of_eq g1.symm))))).other W15 (Or.inl (Nat.ne_of_lt (Nat.lt_of_lt_of_le Fv_ELUSIVE_ordinal.lt (Nat.le_of_eq g1.symm))))).other W23 (Or.inl (Nat.ne_of_lt (Nat.lt_of_lt_of_le Fv_ELUSIVE_ordinal.lt (Nat.le_of_eq g1.symm))))).other W31 (Or.inl (Nat.ne_of_lt (Nat.lt_of_lt_of_le Fv_ELUSIVE_ordinal.lt (Nat.le_of_eq g1.symm))))).other W39 (Or.inl (Nat.ne_of_lt (Nat.lt_of_lt_of_le Fv_ELUSIVE_ordinal.lt (Nat.le_of_eq g1.symm))))).other W47 (Or.inl (Nat.ne_of_lt (Nat.lt_of_lt_of_le Fv_ELUSIVE_ordinal.lt (Nat.le_of_eq g1.symm))))).other W55 (Or.inl (Nat.ne_of_lt (Nat.lt_of_lt_of_le Fv_ELUSIVE_ordinal.lt (Nat.le_of_eq g1.symm))))).other W63 (Or.inl (Nat.ne_of_lt (Nat.lt_of_lt_of_le Fv_ELUSIVE_ordinal.lt (Nat.le_of_eq g1.symm))))).other W71 (Or.inl (Nat.ne_of_lt (Nat.lt_of_lt_of_le Fv_ELUSIVE_ordinal.lt (Nat.le_of_eq g1.symm))))).other W79 (Or.inl (Nat.ne_of_lt (Nat.lt_of_lt_of_le Fv_ELUSIVE_ordinal.lt (Nat.le_of_eq g1.symm))))).other W87 (Or.inl (Nat.ne_of_lt (Nat.lt_of_lt_of_le Fv_ELUSIVE_ordinal.lt (Nat.le_of_eq g1.symm))))).other W95 (Or.inl (Nat.ne_of_lt (Nat.lt_of_lt_of_le Fv_ELUSIVE_ordinal.lt (Nat.le_of_eq g1.symm))))).other W103 (Or.inl (Nat.ne_of_lt (Nat.lt_of_lt_of_le Fv_ELUSIVE_ordinal.lt (Nat.le_of_eq g1.symm))))).other W111 (Or.inl (Nat.ne_of_lt (Nat.lt_of_lt_of_le Fv_ELUSIVE_ordinal.lt (Nat.le_of_eq g1.symm))))).other W119 (Or.inl (Nat.ne_of_lt (Nat.lt_of_lt_of_le Fv_ELUSIVE_ordinal.lt (Nat.le_of_eq g1.symm))))).other W127 (Or.inl (Nat.ne_of_lt (Nat.lt_of_lt_of_le Fv_ELUSIVE_ordinal.lt (Nat.le_of_eq g1.symm))))).other W135 (Or.inl (Nat.ne_of_lt (Nat.lt_of_lt_of_le Fv_ELUSIVE_ordinal.lt (Nat.le_of_eq g1.symm)))))
      have c192 : Fld Z h135 v_ELUSIVE "java/lang/Enum" "ordinal" "I" (.int (8 : Int32)) := ((((((((((((((((((Fv_ELUSIVE_ordinal.ext E1).other W7 (Or.inl (Nat.ne_of_lt (Nat.lt_of_lt_of_le Fv_ELUSIVE_ordinal.lt (Nat.le_of_eq g1.symm))))).other W15 (Or.inl (Nat.ne_of_lt (Nat.lt_of_lt_of_le Fv_ELUSIVE_ordinal.lt (Nat.le_of_eq g1.symm))))).other W23 (Or.inl (Nat.ne_of_lt (Nat.lt_of_lt_of_le Fv_ELUSIVE_ordinal.lt (Nat.le_of_eq g1.symm))))).other W31 (Or.inl (Nat.ne_of_lt (Nat.lt_of_lt_of_le Fv_ELUSIVE_ordinal.lt (Nat.le_of_eq g1.symm))))).other W39 (Or.inl (Nat.ne_of_lt (Nat.lt_of_lt_of_le Fv_ELUSIVE_ordinal.lt (Nat.le_of_eq g1.symm))))).other W47 (Or.inl (Nat.ne_of_lt (Nat.lt_of_lt_of_le Fv_ELUSIVE_ordinal.lt (Nat.le_of_eq g1.symm))))).other W55 (Or.inl (Nat.ne_of_lt (Nat.lt_of_lt_of_le Fv_ELUSIVE_ordinal.lt (Nat.le_of_eq g1.symm))))).other W63 (Or.inl (Nat.ne_of_lt (Nat.lt_of_lt_of_le Fv_ELUSIVE_ordinal.lt (Nat.le_of_eq g1.symm))))).other W71 (Or.inl (Nat.ne_of_lt (Nat.lt_of_lt_of_le Fv_ELUSIVE_ordinal.lt (Nat.le_of_eq g1.symm))))).other W79 (Or.inl (Nat.ne_of_lt (Nat.lt_of_lt_of_le Fv_ELUSIVE_ordinal.lt (Nat.le_of_eq g1.symm))))).other W87 (Or.inl (Nat.ne_of_lt (Nat.lt_of_lt_of_le Fv_ELUSIVE_ordinal.lt (Nat.le_of_eq g1.symm))))).other W95 (Or.inl (Nat.ne_of_lt (Nat.lt_of_lt_of_le Fv_ELUSIVE_ordinal.lt (Nat.le_of_eq g1.symm))))).other W103 (Or.inl (Nat.ne_of_lt (Nat.lt_of_lt_of_le Fv_ELUSIVE_ordinal.lt (Nat.le_of_eq g1.symm))))).other W111 (Or.inl (Nat.ne_of_lt (Nat.lt_of_lt_of_le Fv_ELUSIVE_ordinal.lt (Nat.le_of_eq g1.symm))))).other W119 (Or.inl (Nat.ne_of_lt (Nat.lt_of_lt_of_le Fv_ELUSIVE_ordinal.lt (Nat.le_of_eq g1.symm))))).other W127 (Or.inl (Nat.ne_of_lt (Nat.lt_of_lt_of_le Fv_ELUSIVE_ordinal.lt (Nat.le_of_eq g1.symm))))).other W135 (Or.inl (Nat.ne_of_lt (Nat.lt_of_lt_of_le Fv_ELUSIVE_ordinal.lt (Nat.le_of_eq g1.symm)))))
      exact ⟨v_ELUSIVE, rfl, N138, K136, c190, (by rw [hq121_148, own_dc8]; exact c191), (by rw [hq121_148]; exact c192), (fun q => absurd (hq121_148.symm.trans q) (by decide))⟩
  · skip
    have hq121_149_0 : ¬ p0 = (0 : Int32) := by rw [hq121_149]; decide
    have hq121_149_1 : ¬ p0 = (1 : Int32) := by rw [hq121_149]; decide
    have hq121_149_2 : ¬ p0 = (2 : Int32) := by rw [hq121_149]; decide
    have hq121_149_3 : ¬ p0 = (3 : Int32) := by rw [hq121_149]; decide
    have hq121_149_4 : ¬ p0 = (4 : Int32) := by rw [hq121_149]; decide
    have hq121_149_5 : ¬ p0 = (5 : Int32) := by rw [hq121_149]; decide
    have hq121_149_6 : ¬ p0 = (6 : Int32) := by rw [hq121_149]; decide
    have hq121_149_7 : ¬ p0 = (7 : Int32) := by rw [hq121_149]; decide
    have hq121_149_8 : ¬ p0 = (8 : Int32) := by rw [hq121_149]; decide
    obtain ⟨cl193, Ar193, q193, S_193, N_193, H193, G193⟩ := c137
    have hin193 : ¬ (p0 < 0 ∨ cl193.slots.size ≤ (p0).toNatClampNeg) := inb_of S_193 ⟨by rw [hq121_149]; decide, by rw [hq121_149]; decide⟩
    have hat193 : cl193.slots[(p0).toNatClampNeg]? = some (.ref v_STEALTHY) := Has.at H193 hin193 (by rw [hq121_149]; rfl)
    obtain ⟨fs, hrT, hrunT, hendT, hWT, hsameT⟩ := X135.leave (v := some (.ref v_STEALTHY)) (fun h => by rw [Bd.returns] at h; cases h)
    refine ⟨_, _, S139 _ ?_, hrunT, hendT, _, _, rfl, ?_, ⟨_, rfl⟩, hWT, hsameT.mono (by decide) (by decide)⟩
    · show Steps p.tables e below (T135.setTop (mkF m 121 #[.val (.int p0), .val (.ref b1)] [(.int p0), (.ref b1)])) _
      refine X135.aaload hx (j := p0) (v := (.ref v_STEALTHY)) (by rw [e135]; exact Ar193.1) (State.isArrayOf_alike hZ.alike Ar193.2.1) rfl Ar193.2.2 hin193 hat193 (g := (mkF m 121 #[.val (.int p0), .val (.ref b1)] [(.int p0), (.ref b1)])) rfl rfl (hb hby d1_121) _ ?_
      show Steps p.tables e below (T135.setTop (mkF m 122 #[.val (.int p0), .val (.ref b1)] [(.ref v_STEALTHY)])) _
      exact retOut X135 hx Bd.returns rfl (by right; right; right; right; exact ⟨rfl, rfl, rfl⟩) (hb hby d1_122) hrT
    · show Q1 Z p0 v_VENAL v_DEADLY v_EAGLE_EYE v_EXPLOSIVE v_STEEL_FIST v_TYRANT v_FOREMAN v_GREEDY v_ELUSIVE v_STEALTHY v_UNPREDICTABLE v_BROTHER v_UNFATHOMABLE v_FORTUNATE v_MERCHANT v_SEER v_HEADHUNTER v_WARRIOR v_HUNTER v_MINER v_BLACKSMITH v_EXPLORER h0 n0 _ T135.heap _
      rw [e135]
      have c194 : Exa Z h135 v_STEALTHY "com/example/runehall/runehall/tavern/Hero" := ((((((((c78.wr W79).wr W87).wr W95).wr W103).wr W111).wr W119).wr W127).wr W135)
      have c195 : Fld Z h135 v_STEALTHY "com/example/runehall/runehall/tavern/Hero" "dwarfClass" "Lcom/example/runehall/runehall/tavern/DwarfClass;" (.ref v_EXPLORER) := ((((((((((((((((((Fv_STEALTHY_dwarfClass.ext E1).other W7 (Or.inl (Nat.ne_of_lt (Nat.lt_of_lt_of_le Fv_STEALTHY_ordinal.lt (Nat.le_of_eq g1.symm))))).other W15 (Or.inl (Nat.ne_of_lt (Nat.lt_of_lt_of_le Fv_STEALTHY_ordinal.lt (Nat.le_of_eq g1.symm))))).other W23 (Or.inl (Nat.ne_of_lt (Nat.lt_of_lt_of_le Fv_STEALTHY_ordinal.lt (Nat.le_of_eq g1.symm))))).other W31 (Or.inl (Nat.ne_of_lt (Nat.lt_of_lt_of_le Fv_STEALTHY_ordinal.lt (Nat.le_of_eq g1.symm))))).other W39 (Or.inl (Nat.ne_of_lt (Nat.lt_of_lt_of_le Fv_STEALTHY_ordinal.lt (Nat.le_of_eq g1.symm))))).other W47 (Or.inl (Nat.ne_of_lt (Nat.lt_of_lt_of_le Fv_STEALTHY_ordinal.lt (Nat.le_of_eq g1.symm))))).other W55 (Or.inl (Nat.ne_of_lt (Nat.lt_of_lt_of_le Fv_STEALTHY_ordinal.lt (Nat.le_of_eq g1.symm))))).other W63 (Or.inl (Nat.ne_of_lt (Nat.lt_of_lt_of_le Fv_STEALTHY_ordinal.lt (Nat.le_of_eq g1.symm))))).other W71 (Or.inl (Nat.ne_of_lt (Nat.lt_of_lt_of_le Fv_STEALTHY_ordinal.lt (Nat.le_of_eq g1.symm))))).other W79 (Or.inl (Nat.ne_of_lt (Nat.lt_of_lt_of_le Fv_STEALTHY_ordinal.lt (Nat.le_of_eq g1.symm))))).other W87 (Or.inl (Nat.ne_of_lt (Nat.lt_of_lt_of_le Fv_STEALTHY_ordinal.lt (Nat.le_of_eq g1.symm))))).other W95 (Or.inl (Nat.ne_of_lt (Nat.lt_of_lt_of_le Fv_STEALTHY_ordinal.lt (Nat.le_of_eq g1.symm))))).other W103 (Or.inl (Nat.ne_of_lt (Nat.lt_of_lt_of_le Fv_STEALTHY_ordinal.lt (Nat.le_of_eq g1.symm))))).other W111 (Or.inl (Nat.ne_of_lt (Nat.lt_of_lt_of_le Fv_STEALTHY_ordinal.lt (Nat.le_of_eq g1.symm))))).other W119 (Or.inl (Nat.ne_of_lt (Nat.lt_of_lt_of_le Fv_STEALTHY_ordinal.lt (Nat.le_of_eq g1.symm))))).other W127 (Or.inl (Nat.ne_of_lt (Nat.lt_of_lt_of_le Fv_STEALTHY_ordinal.lt (Nat.le_of_eq g1.symm))))).other W135 (Or.inl (Nat.ne_of_lt (Nat.lt_of_lt_of_le Fv_STEALTHY_ordinal.lt (Nat.le_of_eq g1.symm)))))
      have c196 : Fld Z h135 v_STEALTHY "java/lang/Enum" "ordinal" "I" (.int (9 : Int32)) := ((((((((((((((((((Fv_STEALTHY_ordinal.ext E1).other W7 (Or.inl (Nat.ne_of_lt (Nat.lt_of_lt_of_le Fv_STEALTHY_ordinal.lt (Nat.le_of_eq g1.symm))))).other W15 (Or.inl (Nat.ne_of_lt (Nat.lt_of_lt_of_le Fv_STEALTHY_ordinal.lt (Nat.le_of_eq g1.symm))))).other W23 (Or.inl (Nat.ne_of_lt (Nat.lt_of_lt_of_le Fv_STEALTHY_ordinal.lt (Nat.le_of_eq g1.symm))))).other W31 (Or.inl (Nat.ne_of_lt (Nat.lt_of_lt_of_le Fv_STEALTHY_ordinal.lt (Nat.le_of_eq g1.symm))))).other W39 (Or.inl (Nat.ne_of_lt (Nat.lt_of_lt_of_le Fv_STEALTHY_ordinal.lt (Nat.le_of_eq g1.symm))))).other W47 (Or.inl (Nat.ne_of_lt (Nat.lt_of_lt_of_le Fv_STEALTHY_ordinal.lt (Nat.le_of_eq g1.symm))))).other W55 (Or.inl (Nat.ne_of_lt (Nat.lt_of_lt_of_le Fv_STEALTHY_ordinal.lt (Nat.le_of_eq g1.symm))))).other W63 (Or.inl (Nat.ne_of_lt (Nat.lt_of_lt_of_le Fv_STEALTHY_ordinal.lt (Nat.le_of_eq g1.symm))))).other W71 (Or.inl (Nat.ne_of_lt (Nat.lt_of_lt_of_le Fv_STEALTHY_ordinal.lt (Nat.le_of_eq g1.symm))))).other W79 (Or.inl (Nat.ne_of_lt (Nat.lt_of_lt_of_le Fv_STEALTHY_ordinal.lt (Nat.le_of_eq g1.symm))))).other W87 (Or.inl (Nat.ne_of_lt (Nat.lt_of_lt_of_le Fv_STEALTHY_ordinal.lt (Nat.le_of_eq g1.symm))))).other W95 (Or.inl (Nat.ne_of_lt (Nat.lt_of_lt_of_le Fv_STEALTHY_ordinal.lt (Nat.le_of_eq g1.symm))))).other W103 (Or.inl (Nat.ne_of_lt (Nat.lt_of_lt_of_le Fv_STEALTHY_ordinal.lt (Nat.le_of_eq g1.symm))))).other W111 (Or.inl (Nat.ne_of_lt (Nat.lt_of_lt_of_le Fv_STEALTHY_ordinal.lt (Nat.le_of_eq g1.symm))))).other W119 (Or.inl (Nat.ne_of_lt (Nat.lt_of_lt_of_le Fv_STEALTHY_ordinal.lt (Nat.le_of_eq g1.symm))))).other W127 (Or.inl (Nat.ne_of_lt (Nat.lt_of_lt_of_le Fv_STEALTHY_ordinal.lt (Nat.le_of_eq g1.symm))))).other W135 (Or.inl (Nat.ne_of_lt (Nat.lt_of_lt_of_le Fv_STEALTHY_ordinal.lt (Nat.le_of_eq g1.symm)))))
      exact ⟨v_STEALTHY, rfl, N138, K136, c194, (by rw [hq121_149, own_dc9]; exact c195), (by rw [hq121_149]; exact c196), (fun q => absurd (hq121_149.symm.trans q) (by decide))⟩
  · skip
    have hq121_150_0 : ¬ p0 = (0 : Int32) := by rw [hq121_150]; decide
    have hq121_150_1 : ¬ p0 = (1 : Int32) := by rw [hq121_150]; decide
    have hq121_150_2 : ¬ p0 = (2 : Int32) := by rw [hq121_150]; decide
    have hq121_150_3 : ¬ p0 = (3 : Int32) := by rw [hq121_150]; decide
    have hq121_150_4 : ¬ p0 = (4 : Int32) := by rw [hq121_150]; decide
    have hq121_150_5 : ¬ p0 = (5 : Int32) := by rw [hq121_150]; decide
    have hq121_150_6 : ¬ p0 = (6 : Int32) := by rw [hq121_150]; decide
    have hq121_150_7 : ¬ p0 = (7 : Int32) := by rw [hq121_150]; decide
    have hq121_150_8 : ¬ p0 = (8 : Int32) := by rw [hq121_150]; decide
    have hq121_150_9 : ¬ p0 = (9 : Int32) := by rw [hq121_150]; decide
    obtain ⟨cl197, Ar197, q197, S_197, N_197, H197, G197⟩ := c137
    have hin197 : ¬ (p0 < 0 ∨ cl197.slots.size ≤ (p0).toNatClampNeg) := inb_of S_197 ⟨by rw [hq121_150]; decide, by rw [hq121_150]; decide⟩
    have hat197 : cl197.slots[(p0).toNatClampNeg]? = some (.ref v_UNPREDICTABLE) := Has.at H197 hin197 (by rw [hq121_150]; rfl)
    obtain ⟨fs, hrT, hrunT, hendT, hWT, hsameT⟩ := X135.leave (v := some (.ref v_UNPREDICTABLE)) (fun h => by rw [Bd.returns] at h; cases h)
    refine ⟨_, _, S139 _ ?_, hrunT, hendT, _, _, rfl, ?_, ⟨_, rfl⟩, hWT, hsameT.mono (by decide) (by decide)⟩
    · show Steps p.tables e below (T135.setTop (mkF m 121 #[.val (.int p0), .val (.ref b1)] [(.int p0), (.ref b1)])) _
      refine X135.aaload hx (j := p0) (v := (.ref v_UNPREDICTABLE)) (by rw [e135]; exact Ar197.1) (State.isArrayOf_alike hZ.alike Ar197.2.1) rfl Ar197.2.2 hin197 hat197 (g := (mkF m 121 #[.val (.int p0), .val (.ref b1)] [(.int p0), (.ref b1)])) rfl rfl (hb hby d1_121) _ ?_
      show Steps p.tables e below (T135.setTop (mkF m 122 #[.val (.int p0), .val (.ref b1)] [(.ref v_UNPREDICTABLE)])) _
      exact retOut X135 hx Bd.returns rfl (by right; right; right; right; exact ⟨rfl, rfl, rfl⟩) (hb hby d1_122) hrT
    · show Q1 Z p0 v_VENAL v_DEADLY v_EAGLE_EYE v_EXPLOSIVE v_STEEL_FIST v_TYRANT v_FOREMAN v_GREEDY v_ELUSIVE v_STEALTHY v_UNPREDICTABLE v_BROTHER v_UNFATHOMABLE v_FORTUNATE v_MERCHANT v_SEER v_HEADHUNTER v_WARRIOR v_HUNTER v_MINER v_BLACKSMITH v_EXPLORER h0 n0 _ T135.heap _
      rw [e135]
      have c198 : Exa Z h135 v_UNPREDICTABLE "com/example/runehall/runehall/tavern/Hero" := (((((((c86.wr W87).wr W95).wr W103).wr W111).wr W119).wr W127).wr W135)
      have c199 : Fld Z h135 v_UNPREDICTABLE "com/example/runehall/runehall/tavern/Hero" "dwarfClass" "Lcom/example/runehall/runehall/tavern/DwarfClass;" .null := ((((((((((((((((((Fv_UNPREDICTABLE_dwarfClass.ext E1).other W7 (Or.inl (Nat.ne_of_lt (Nat.lt_of_lt_of_le Fv_UNPREDICTABLE_ordinal.lt (Nat.le_of_eq g1.symm))))).other W15 (Or.inl (Nat.ne_of_lt (Nat.lt_of_lt_of_le Fv_UNPREDICTABLE_ordinal.lt (Nat.le_of_eq g1.symm))))).other W23 (Or.inl (Nat.ne_of_lt (Nat.lt_of_lt_of_le Fv_UNPREDICTABLE_ordinal.lt (Nat.le_of_eq g1.symm))))).other W31 (Or.inl (Nat.ne_of_lt (Nat.lt_of_lt_of_le Fv_UNPREDICTABLE_ordinal.lt (Nat.le_of_eq g1.symm))))).other W39 (Or.inl (Nat.ne_of_lt (Nat.lt_of_lt_of_le Fv_UNPREDICTABLE_ordinal.lt (Nat.le_of_eq g1.symm))))).other W47 (Or.inl (Nat.ne_of_lt (Nat.lt_of_lt_of_le Fv_UNPREDICTABLE_ordinal.lt (Nat.le_of_eq g1.symm))))).other W55 (Or.inl (Nat.ne_of_lt (Nat.lt_of_lt_of_le Fv_UNPREDICTABLE_ordinal.lt (Nat.le_of_eq g1.symm))))).other W63 (Or.inl (Nat.ne_of_lt (Nat.lt_of_lt_of_le Fv_UNPREDICTABLE_ordinal.lt (Nat.le_of_eq g1.symm))))).other W71 (Or.inl (Nat.ne_of_lt (Nat.lt_of_lt_of_le Fv_UNPREDICTABLE_ordinal.lt (Nat.le_of_eq g1.symm))))).other W79 (Or.inl (Nat.ne_of_lt (Nat.lt_of_lt_of_le Fv_UNPREDICTABLE_ordinal.lt (Nat.le_of_eq g1.symm))))).other W87 (Or.inl (Nat.ne_of_lt (Nat.lt_of_lt_of_le Fv_UNPREDICTABLE_ordinal.lt (Nat.le_of_eq g1.symm))))).other W95 (Or.inl (Nat.ne_of_lt (Nat.lt_of_lt_of_le Fv_UNPREDICTABLE_ordinal.lt (Nat.le_of_eq g1.symm))))).other W103 (Or.inl (Nat.ne_of_lt (Nat.lt_of_lt_of_le Fv_UNPREDICTABLE_ordinal.lt (Nat.le_of_eq g1.symm))))).other W111 (Or.inl (Nat.ne_of_lt (Nat.lt_of_lt_of_le Fv_UNPREDICTABLE_ordinal.lt (Nat.le_of_eq g1.symm))))).other W119 (Or.inl (Nat.ne_of_lt (Nat.lt_of_lt_of_le Fv_UNPREDICTABLE_ordinal.lt (Nat.le_of_eq g1.symm))))).other W127 (Or.inl (Nat.ne_of_lt (Nat.lt_of_lt_of_le Fv_UNPREDICTABLE_ordinal.lt (Nat.le_of_eq g1.symm))))).other W135 (Or.inl (Nat.ne_of_lt (Nat.lt_of_lt_of_le Fv_UNPREDICTABLE_ordinal.lt (Nat.le_of_eq g1.symm)))))
      have c200 : Fld Z h135 v_UNPREDICTABLE "java/lang/Enum" "ordinal" "I" (.int (10 : Int32)) := ((((((((((((((((((Fv_UNPREDICTABLE_ordinal.ext E1).other W7 (Or.inl (Nat.ne_of_lt (Nat.lt_of_lt_of_le Fv_UNPREDICTABLE_ordinal.lt (Nat.le_of_eq g1.symm))))).other W15 (Or.inl (Nat.ne_of_lt (Nat.lt_of_lt_of_le Fv_UNPREDICTABLE_ordinal.lt (Nat.le_of_eq g1.symm))))).other W23 (Or.inl (Nat.ne_of_lt (Nat.lt_of_lt_of_le Fv_UNPREDICTABLE_ordinal.lt (Nat.le_of_eq g1.symm))))).other W31 (Or.inl (Nat.ne_of_lt (Nat.lt_of_lt_of_le Fv_UNPREDICTABLE_ordinal.lt (Nat.le_of_eq g1.symm))))).other W39 (Or.inl (Nat.ne_of_lt (Nat.lt_of_lt_of_le Fv_UNPREDICTABLE_ordinal.lt (Nat.le_of_eq g1.symm))))).other W47 (Or.inl (Nat.ne_of_lt (Nat.lt_of_lt_of_le Fv_UNPREDICTABLE_ordinal.lt (Nat.le_of_eq g1.symm))))).other W55 (Or.inl (Nat.ne_of_lt (Nat.lt_of_lt_of_le Fv_UNPREDICTABLE_ordinal.lt (Nat.le_of_eq g1.symm))))).other W63 (Or.inl (Nat.ne_of_lt (Nat.lt_of_lt_of_le Fv_UNPREDICTABLE_ordinal.lt (Nat.le_of_eq g1.symm))))).other W71 (Or.inl (Nat.ne_of_lt (Nat.lt_of_lt_of_le Fv_UNPREDICTABLE_ordinal.lt (Nat.le_of_eq g1.symm))))).other W79 (Or.inl (Nat.ne_of_lt (Nat.lt_of_lt_of_le Fv_UNPREDICTABLE_ordinal.lt (Nat.le_of_eq g1.symm))))).other W87 (Or.inl (Nat.ne_of_lt (Nat.lt_of_lt_of_le Fv_UNPREDICTABLE_ordinal.lt (Nat.le_of_eq g1.symm))))).other W95 (Or.inl (Nat.ne_of_lt (Nat.lt_of_lt_of_le Fv_UNPREDICTABLE_ordinal.lt (Nat.le_of_eq g1.symm))))).other W103 (Or.inl (Nat.ne_of_lt (Nat.lt_of_lt_of_le Fv_UNPREDICTABLE_ordinal.lt (Nat.le_of_eq g1.symm))))).other W111 (Or.inl (Nat.ne_of_lt (Nat.lt_of_lt_of_le Fv_UNPREDICTABLE_ordinal.lt (Nat.le_of_eq g1.symm))))).other W119 (Or.inl (Nat.ne_of_lt (Nat.lt_of_lt_of_le Fv_UNPREDICTABLE_ordinal.lt (Nat.le_of_eq g1.symm))))).other W127 (Or.inl (Nat.ne_of_lt (Nat.lt_of_lt_of_le Fv_UNPREDICTABLE_ordinal.lt (Nat.le_of_eq g1.symm))))).other W135 (Or.inl (Nat.ne_of_lt (Nat.lt_of_lt_of_le Fv_UNPREDICTABLE_ordinal.lt (Nat.le_of_eq g1.symm)))))
      exact ⟨v_UNPREDICTABLE, rfl, N138, K136, c198, (by rw [hq121_150, own_dc10]; exact c199), (by rw [hq121_150]; exact c200), (fun _ => rfl)⟩
  · skip
    have hq121_151_0 : ¬ p0 = (0 : Int32) := by rw [hq121_151]; decide
    have hq121_151_1 : ¬ p0 = (1 : Int32) := by rw [hq121_151]; decide
    have hq121_151_2 : ¬ p0 = (2 : Int32) := by rw [hq121_151]; decide
    have hq121_151_3 : ¬ p0 = (3 : Int32) := by rw [hq121_151]; decide
    have hq121_151_4 : ¬ p0 = (4 : Int32) := by rw [hq121_151]; decide
    have hq121_151_5 : ¬ p0 = (5 : Int32) := by rw [hq121_151]; decide
    have hq121_151_6 : ¬ p0 = (6 : Int32) := by rw [hq121_151]; decide
    have hq121_151_7 : ¬ p0 = (7 : Int32) := by rw [hq121_151]; decide
    have hq121_151_8 : ¬ p0 = (8 : Int32) := by rw [hq121_151]; decide
    have hq121_151_9 : ¬ p0 = (9 : Int32) := by rw [hq121_151]; decide
    have hq121_151_10 : ¬ p0 = (10 : Int32) := by rw [hq121_151]; decide
    obtain ⟨cl201, Ar201, q201, S_201, N_201, H201, G201⟩ := c137
    have hin201 : ¬ (p0 < 0 ∨ cl201.slots.size ≤ (p0).toNatClampNeg) := inb_of S_201 ⟨by rw [hq121_151]; decide, by rw [hq121_151]; decide⟩
    have hat201 : cl201.slots[(p0).toNatClampNeg]? = some (.ref v_BROTHER) := Has.at H201 hin201 (by rw [hq121_151]; rfl)
    obtain ⟨fs, hrT, hrunT, hendT, hWT, hsameT⟩ := X135.leave (v := some (.ref v_BROTHER)) (fun h => by rw [Bd.returns] at h; cases h)
    refine ⟨_, _, S139 _ ?_, hrunT, hendT, _, _, rfl, ?_, ⟨_, rfl⟩, hWT, hsameT.mono (by decide) (by decide)⟩
    · show Steps p.tables e below (T135.setTop (mkF m 121 #[.val (.int p0), .val (.ref b1)] [(.int p0), (.ref b1)])) _
      refine X135.aaload hx (j := p0) (v := (.ref v_BROTHER)) (by rw [e135]; exact Ar201.1) (State.isArrayOf_alike hZ.alike Ar201.2.1) rfl Ar201.2.2 hin201 hat201 (g := (mkF m 121 #[.val (.int p0), .val (.ref b1)] [(.int p0), (.ref b1)])) rfl rfl (hb hby d1_121) _ ?_
      show Steps p.tables e below (T135.setTop (mkF m 122 #[.val (.int p0), .val (.ref b1)] [(.ref v_BROTHER)])) _
      exact retOut X135 hx Bd.returns rfl (by right; right; right; right; exact ⟨rfl, rfl, rfl⟩) (hb hby d1_122) hrT
    · show Q1 Z p0 v_VENAL v_DEADLY v_EAGLE_EYE v_EXPLOSIVE v_STEEL_FIST v_TYRANT v_FOREMAN v_GREEDY v_ELUSIVE v_STEALTHY v_UNPREDICTABLE v_BROTHER v_UNFATHOMABLE v_FORTUNATE v_MERCHANT v_SEER v_HEADHUNTER v_WARRIOR v_HUNTER v_MINER v_BLACKSMITH v_EXPLORER h0 n0 _ T135.heap _
      rw [e135]
      have c202 : Exa Z h135 v_BROTHER "com/example/runehall/runehall/tavern/Hero" := ((((((c94.wr W95).wr W103).wr W111).wr W119).wr W127).wr W135)
      have c203 : Fld Z h135 v_BROTHER "com/example/runehall/runehall/tavern/Hero" "dwarfClass" "Lcom/example/runehall/runehall/tavern/DwarfClass;" .null := ((((((((((((((((((Fv_BROTHER_dwarfClass.ext E1).other W7 (Or.inl (Nat.ne_of_lt (Nat.lt_of_lt_of_le Fv_BROTHER_ordinal.lt (Nat.le_of_eq g1.symm))))).other W15 (Or.inl (Nat.ne_of_lt (Nat.lt_of_lt_of_le Fv_BROTHER_ordinal.lt (Nat.le_of_eq g1.symm))))).other W23 (Or.inl (Nat.ne_of_lt (Nat.lt_of_lt_of_le Fv_BROTHER_ordinal.lt (Nat.le_of_eq g1.symm))))).other W31 (Or.inl (Nat.ne_of_lt (Nat.lt_of_lt_of_le Fv_BROTHER_ordinal.lt (Nat.le_of_eq g1.symm))))).other W39 (Or.inl (Nat.ne_of_lt (Nat.lt_of_lt_of_le Fv_BROTHER_ordinal.lt (Nat.le_of_eq g1.symm))))).other W47 (Or.inl (Nat.ne_of_lt (Nat.lt_of_lt_of_le Fv_BROTHER_ordinal.lt (Nat.le_of_eq g1.symm))))).other W55 (Or.inl (Nat.ne_of_lt (Nat.lt_of_lt_of_le Fv_BROTHER_ordinal.lt (Nat.le_of_eq g1.symm))))).other W63 (Or.inl (Nat.ne_of_lt (Nat.lt_of_lt_of_le Fv_BROTHER_ordinal.lt (Nat.le_of_eq g1.symm))))).other W71 (Or.inl (Nat.ne_of_lt (Nat.lt_of_lt_of_le Fv_BROTHER_ordinal.lt (Nat.le_of_eq g1.symm))))).other W79 (Or.inl (Nat.ne_of_lt (Nat.lt_of_lt_of_le Fv_BROTHER_ordinal.lt (Nat.le_of_eq g1.symm))))).other W87 (Or.inl (Nat.ne_of_lt (Nat.lt_of_lt_of_le Fv_BROTHER_ordinal.lt (Nat.le_of_eq g1.symm))))).other W95 (Or.inl (Nat.ne_of_lt (Nat.lt_of_lt_of_le Fv_BROTHER_ordinal.lt (Nat.le_of_eq g1.symm))))).other W103 (Or.inl (Nat.ne_of_lt (Nat.lt_of_lt_of_le Fv_BROTHER_ordinal.lt (Nat.le_of_eq g1.symm))))).other W111 (Or.inl (Nat.ne_of_lt (Nat.lt_of_lt_of_le Fv_BROTHER_ordinal.lt (Nat.le_of_eq g1.symm))))).other W119 (Or.inl (Nat.ne_of_lt (Nat.lt_of_lt_of_le Fv_BROTHER_ordinal.lt (Nat.le_of_eq g1.symm))))).other W127 (Or.inl (Nat.ne_of_lt (Nat.lt_of_lt_of_le Fv_BROTHER_ordinal.lt (Nat.le_of_eq g1.symm))))).other W135 (Or.inl (Nat.ne_of_lt (Nat.lt_of_lt_of_le Fv_BROTHER_ordinal.lt (Nat.le_of_eq g1.symm)))))
      have c204 : Fld Z h135 v_BROTHER "java/lang/Enum" "ordinal" "I" (.int (11 : Int32)) := ((((((((((((((((((Fv_BROTHER_ordinal.ext E1).other W7 (Or.inl (Nat.ne_of_lt (Nat.lt_of_lt_of_le Fv_BROTHER_ordinal.lt (Nat.le_of_eq g1.symm))))).other W15 (Or.inl (Nat.ne_of_lt (Nat.lt_of_lt_of_le Fv_BROTHER_ordinal.lt (Nat.le_of_eq g1.symm))))).other W23 (Or.inl (Nat.ne_of_lt (Nat.lt_of_lt_of_le Fv_BROTHER_ordinal.lt (Nat.le_of_eq g1.symm))))).other W31 (Or.inl (Nat.ne_of_lt (Nat.lt_of_lt_of_le Fv_BROTHER_ordinal.lt (Nat.le_of_eq g1.symm))))).other W39 (Or.inl (Nat.ne_of_lt (Nat.lt_of_lt_of_le Fv_BROTHER_ordinal.lt (Nat.le_of_eq g1.symm))))).other W47 (Or.inl (Nat.ne_of_lt (Nat.lt_of_lt_of_le Fv_BROTHER_ordinal.lt (Nat.le_of_eq g1.symm))))).other W55 (Or.inl (Nat.ne_of_lt (Nat.lt_of_lt_of_le Fv_BROTHER_ordinal.lt (Nat.le_of_eq g1.symm))))).other W63 (Or.inl (Nat.ne_of_lt (Nat.lt_of_lt_of_le Fv_BROTHER_ordinal.lt (Nat.le_of_eq g1.symm))))).other W71 (Or.inl (Nat.ne_of_lt (Nat.lt_of_lt_of_le Fv_BROTHER_ordinal.lt (Nat.le_of_eq g1.symm))))).other W79 (Or.inl (Nat.ne_of_lt (Nat.lt_of_lt_of_le Fv_BROTHER_ordinal.lt (Nat.le_of_eq g1.symm))))).other W87 (Or.inl (Nat.ne_of_lt (Nat.lt_of_lt_of_le Fv_BROTHER_ordinal.lt (Nat.le_of_eq g1.symm))))).other W95 (Or.inl (Nat.ne_of_lt (Nat.lt_of_lt_of_le Fv_BROTHER_ordinal.lt (Nat.le_of_eq g1.symm))))).other W103 (Or.inl (Nat.ne_of_lt (Nat.lt_of_lt_of_le Fv_BROTHER_ordinal.lt (Nat.le_of_eq g1.symm))))).other W111 (Or.inl (Nat.ne_of_lt (Nat.lt_of_lt_of_le Fv_BROTHER_ordinal.lt (Nat.le_of_eq g1.symm))))).other W119 (Or.inl (Nat.ne_of_lt (Nat.lt_of_lt_of_le Fv_BROTHER_ordinal.lt (Nat.le_of_eq g1.symm))))).other W127 (Or.inl (Nat.ne_of_lt (Nat.lt_of_lt_of_le Fv_BROTHER_ordinal.lt (Nat.le_of_eq g1.symm))))).other W135 (Or.inl (Nat.ne_of_lt (Nat.lt_of_lt_of_le Fv_BROTHER_ordinal.lt (Nat.le_of_eq g1.symm)))))
      exact ⟨v_BROTHER, rfl, N138, K136, c202, (by rw [hq121_151, own_dc11]; exact c203), (by rw [hq121_151]; exact c204), (fun q => absurd (hq121_151.symm.trans q) (by decide))⟩
  · skip
    have hq121_152_0 : ¬ p0 = (0 : Int32) := by rw [hq121_152]; decide
    have hq121_152_1 : ¬ p0 = (1 : Int32) := by rw [hq121_152]; decide
    have hq121_152_2 : ¬ p0 = (2 : Int32) := by rw [hq121_152]; decide
    have hq121_152_3 : ¬ p0 = (3 : Int32) := by rw [hq121_152]; decide
    have hq121_152_4 : ¬ p0 = (4 : Int32) := by rw [hq121_152]; decide
    have hq121_152_5 : ¬ p0 = (5 : Int32) := by rw [hq121_152]; decide
    have hq121_152_6 : ¬ p0 = (6 : Int32) := by rw [hq121_152]; decide
    have hq121_152_7 : ¬ p0 = (7 : Int32) := by rw [hq121_152]; decide
    have hq121_152_8 : ¬ p0 = (8 : Int32) := by rw [hq121_152]; decide
    have hq121_152_9 : ¬ p0 = (9 : Int32) := by rw [hq121_152]; decide
    have hq121_152_10 : ¬ p0 = (10 : Int32) := by rw [hq121_152]; decide
    have hq121_152_11 : ¬ p0 = (11 : Int32) := by rw [hq121_152]; decide
    obtain ⟨cl205, Ar205, q205, S_205, N_205, H205, G205⟩ := c137
    have hin205 : ¬ (p0 < 0 ∨ cl205.slots.size ≤ (p0).toNatClampNeg) := inb_of S_205 ⟨by rw [hq121_152]; decide, by rw [hq121_152]; decide⟩
    have hat205 : cl205.slots[(p0).toNatClampNeg]? = some (.ref v_UNFATHOMABLE) := Has.at H205 hin205 (by rw [hq121_152]; rfl)
    obtain ⟨fs, hrT, hrunT, hendT, hWT, hsameT⟩ := X135.leave (v := some (.ref v_UNFATHOMABLE)) (fun h => by rw [Bd.returns] at h; cases h)
    refine ⟨_, _, S139 _ ?_, hrunT, hendT, _, _, rfl, ?_, ⟨_, rfl⟩, hWT, hsameT.mono (by decide) (by decide)⟩
    · show Steps p.tables e below (T135.setTop (mkF m 121 #[.val (.int p0), .val (.ref b1)] [(.int p0), (.ref b1)])) _
      refine X135.aaload hx (j := p0) (v := (.ref v_UNFATHOMABLE)) (by rw [e135]; exact Ar205.1) (State.isArrayOf_alike hZ.alike Ar205.2.1) rfl Ar205.2.2 hin205 hat205 (g := (mkF m 121 #[.val (.int p0), .val (.ref b1)] [(.int p0), (.ref b1)])) rfl rfl (hb hby d1_121) _ ?_
      show Steps p.tables e below (T135.setTop (mkF m 122 #[.val (.int p0), .val (.ref b1)] [(.ref v_UNFATHOMABLE)])) _
      exact retOut X135 hx Bd.returns rfl (by right; right; right; right; exact ⟨rfl, rfl, rfl⟩) (hb hby d1_122) hrT
    · show Q1 Z p0 v_VENAL v_DEADLY v_EAGLE_EYE v_EXPLOSIVE v_STEEL_FIST v_TYRANT v_FOREMAN v_GREEDY v_ELUSIVE v_STEALTHY v_UNPREDICTABLE v_BROTHER v_UNFATHOMABLE v_FORTUNATE v_MERCHANT v_SEER v_HEADHUNTER v_WARRIOR v_HUNTER v_MINER v_BLACKSMITH v_EXPLORER h0 n0 _ T135.heap _
      rw [e135]
      have c206 : Exa Z h135 v_UNFATHOMABLE "com/example/runehall/runehall/tavern/Hero" := (((((c102.wr W103).wr W111).wr W119).wr W127).wr W135)
      have c207 : Fld Z h135 v_UNFATHOMABLE "com/example/runehall/runehall/tavern/Hero" "dwarfClass" "Lcom/example/runehall/runehall/tavern/DwarfClass;" .null := ((((((((((((((((((Fv_UNFATHOMABLE_dwarfClass.ext E1).other W7 (Or.inl (Nat.ne_of_lt (Nat.lt_of_lt_of_le Fv_UNFATHOMABLE_ordinal.lt (Nat.le_of_eq g1.symm))))).other W15 (Or.inl (Nat.ne_of_lt (Nat.lt_of_lt_of_le Fv_UNFATHOMABLE_ordinal.lt (Nat.le_of_eq g1.symm))))).other W23 (Or.inl (Nat.ne_of_lt (Nat.lt_of_lt_of_le Fv_UNFATHOMABLE_ordinal.lt (Nat.le_of_eq g1.symm))))).other W31 (Or.inl (Nat.ne_of_lt (Nat.lt_of_lt_of_le Fv_UNFATHOMABLE_ordinal.lt (Nat.le_of_eq g1.symm))))).other W39 (Or.inl (Nat.ne_of_lt (Nat.lt_of_lt_of_le Fv_UNFATHOMABLE_ordinal.lt (Nat.le_of_eq g1.symm))))).other W47 (Or.inl (Nat.ne_of_lt (Nat.lt_of_lt_of_le Fv_UNFATHOMABLE_ordinal.lt (Nat.le_of_eq g1.symm))))).other W55 (Or.inl (Nat.ne_of_lt (Nat.lt_of_lt_of_le Fv_UNFATHOMABLE_ordinal.lt (Nat.le_of_eq g1.symm))))).other W63 (Or.inl (Nat.ne_of_lt (Nat.lt_of_lt_of_le Fv_UNFATHOMABLE_ordinal.lt (Nat.le_of_eq g1.symm))))).other W71 (Or.inl (Nat.ne_of_lt (Nat.lt_of_lt_of_le Fv_UNFATHOMABLE_ordinal.lt (Nat.le_of_eq g1.symm))))).other W79 (Or.inl (Nat.ne_of_lt (Nat.lt_of_lt_of_le Fv_UNFATHOMABLE_ordinal.lt (Nat.le_of_eq g1.symm))))).other W87 (Or.inl (Nat.ne_of_lt (Nat.lt_of_lt_of_le Fv_UNFATHOMABLE_ordinal.lt (Nat.le_of_eq g1.symm))))).other W95 (Or.inl (Nat.ne_of_lt (Nat.lt_of_lt_of_le Fv_UNFATHOMABLE_ordinal.lt (Nat.le_of_eq g1.symm))))).other W103 (Or.inl (Nat.ne_of_lt (Nat.lt_of_lt_of_le Fv_UNFATHOMABLE_ordinal.lt (Nat.le_of_eq g1.symm))))).other W111 (Or.inl (Nat.ne_of_lt (Nat.lt_of_lt_of_le Fv_UNFATHOMABLE_ordinal.lt (Nat.le_of_eq g1.symm))))).other W119 (Or.inl (Nat.ne_of_lt (Nat.lt_of_lt_of_le Fv_UNFATHOMABLE_ordinal.lt (Nat.le_of_eq g1.symm))))).other W127 (Or.inl (Nat.ne_of_lt (Nat.lt_of_lt_of_le Fv_UNFATHOMABLE_ordinal.lt (Nat.le_of_eq g1.symm))))).other W135 (Or.inl (Nat.ne_of_lt (Nat.lt_of_lt_of_le Fv_UNFATHOMABLE_ordinal.lt (Nat.le_of_eq g1.symm)))))
      have c208 : Fld Z h135 v_UNFATHOMABLE "java/lang/Enum" "ordinal" "I" (.int (12 : Int32)) := ((((((((((((((((((Fv_UNFATHOMABLE_ordinal.ext E1).other W7 (Or.inl (Nat.ne_of_lt (Nat.lt_of_lt_of_le Fv_UNFATHOMABLE_ordinal.lt (Nat.le_of_eq g1.symm))))).other W15 (Or.inl (Nat.ne_of_lt (Nat.lt_of_lt_of_le Fv_UNFATHOMABLE_ordinal.lt (Nat.le_of_eq g1.symm))))).other W23 (Or.inl (Nat.ne_of_lt (Nat.lt_of_lt_of_le Fv_UNFATHOMABLE_ordinal.lt (Nat.le_of_eq g1.symm))))).other W31 (Or.inl (Nat.ne_of_lt (Nat.lt_of_lt_of_le Fv_UNFATHOMABLE_ordinal.lt (Nat.le_of_eq g1.symm))))).other W39 (Or.inl (Nat.ne_of_lt (Nat.lt_of_lt_of_le Fv_UNFATHOMABLE_ordinal.lt (Nat.le_of_eq g1.symm))))).other W47 (Or.inl (Nat.ne_of_lt (Nat.lt_of_lt_of_le Fv_UNFATHOMABLE_ordinal.lt (Nat.le_of_eq g1.symm))))).other W55 (Or.inl (Nat.ne_of_lt (Nat.lt_of_lt_of_le Fv_UNFATHOMABLE_ordinal.lt (Nat.le_of_eq g1.symm))))).other W63 (Or.inl (Nat.ne_of_lt (Nat.lt_of_lt_of_le Fv_UNFATHOMABLE_ordinal.lt (Nat.le_of_eq g1.symm))))).other W71 (Or.inl (Nat.ne_of_lt (Nat.lt_of_lt_of_le Fv_UNFATHOMABLE_ordinal.lt (Nat.le_of_eq g1.symm))))).other W79 (Or.inl (Nat.ne_of_lt (Nat.lt_of_lt_of_le Fv_UNFATHOMABLE_ordinal.lt (Nat.le_of_eq g1.symm))))).other W87 (Or.inl (Nat.ne_of_lt (Nat.lt_of_lt_of_le Fv_UNFATHOMABLE_ordinal.lt (Nat.le_of_eq g1.symm))))).other W95 (Or.inl (Nat.ne_of_lt (Nat.lt_of_lt_of_le Fv_UNFATHOMABLE_ordinal.lt (Nat.le_of_eq g1.symm))))).other W103 (Or.inl (Nat.ne_of_lt (Nat.lt_of_lt_of_le Fv_UNFATHOMABLE_ordinal.lt (Nat.le_of_eq g1.symm))))).other W111 (Or.inl (Nat.ne_of_lt (Nat.lt_of_lt_of_le Fv_UNFATHOMABLE_ordinal.lt (Nat.le_of_eq g1.symm))))).other W119 (Or.inl (Nat.ne_of_lt (Nat.lt_of_lt_of_le Fv_UNFATHOMABLE_ordinal.lt (Nat.le_of_eq g1.symm))))).other W127 (Or.inl (Nat.ne_of_lt (Nat.lt_of_lt_of_le Fv_UNFATHOMABLE_ordinal.lt (Nat.le_of_eq g1.symm))))).other W135 (Or.inl (Nat.ne_of_lt (Nat.lt_of_lt_of_le Fv_UNFATHOMABLE_ordinal.lt (Nat.le_of_eq g1.symm)))))
      exact ⟨v_UNFATHOMABLE, rfl, N138, K136, c206, (by rw [hq121_152, own_dc12]; exact c207), (by rw [hq121_152]; exact c208), (fun q => absurd (hq121_152.symm.trans q) (by decide))⟩
  · skip
    have hq121_153_0 : ¬ p0 = (0 : Int32) := by rw [hq121_153]; decide
    have hq121_153_1 : ¬ p0 = (1 : Int32) := by rw [hq121_153]; decide
    have hq121_153_2 : ¬ p0 = (2 : Int32) := by rw [hq121_153]; decide
    have hq121_153_3 : ¬ p0 = (3 : Int32) := by rw [hq121_153]; decide
    have hq121_153_4 : ¬ p0 = (4 : Int32) := by rw [hq121_153]; decide
    have hq121_153_5 : ¬ p0 = (5 : Int32) := by rw [hq121_153]; decide
    have hq121_153_6 : ¬ p0 = (6 : Int32) := by rw [hq121_153]; decide
    have hq121_153_7 : ¬ p0 = (7 : Int32) := by rw [hq121_153]; decide
    have hq121_153_8 : ¬ p0 = (8 : Int32) := by rw [hq121_153]; decide
    have hq121_153_9 : ¬ p0 = (9 : Int32) := by rw [hq121_153]; decide
    have hq121_153_10 : ¬ p0 = (10 : Int32) := by rw [hq121_153]; decide
    have hq121_153_11 : ¬ p0 = (11 : Int32) := by rw [hq121_153]; decide
    have hq121_153_12 : ¬ p0 = (12 : Int32) := by rw [hq121_153]; decide
    obtain ⟨cl209, Ar209, q209, S_209, N_209, H209, G209⟩ := c137
    have hin209 : ¬ (p0 < 0 ∨ cl209.slots.size ≤ (p0).toNatClampNeg) := inb_of S_209 ⟨by rw [hq121_153]; decide, by rw [hq121_153]; decide⟩
    have hat209 : cl209.slots[(p0).toNatClampNeg]? = some (.ref v_FORTUNATE) := Has.at H209 hin209 (by rw [hq121_153]; rfl)
    obtain ⟨fs, hrT, hrunT, hendT, hWT, hsameT⟩ := X135.leave (v := some (.ref v_FORTUNATE)) (fun h => by rw [Bd.returns] at h; cases h)
    refine ⟨_, _, S139 _ ?_, hrunT, hendT, _, _, rfl, ?_, ⟨_, rfl⟩, hWT, hsameT.mono (by decide) (by decide)⟩
    · show Steps p.tables e below (T135.setTop (mkF m 121 #[.val (.int p0), .val (.ref b1)] [(.int p0), (.ref b1)])) _
      refine X135.aaload hx (j := p0) (v := (.ref v_FORTUNATE)) (by rw [e135]; exact Ar209.1) (State.isArrayOf_alike hZ.alike Ar209.2.1) rfl Ar209.2.2 hin209 hat209 (g := (mkF m 121 #[.val (.int p0), .val (.ref b1)] [(.int p0), (.ref b1)])) rfl rfl (hb hby d1_121) _ ?_
      show Steps p.tables e below (T135.setTop (mkF m 122 #[.val (.int p0), .val (.ref b1)] [(.ref v_FORTUNATE)])) _
      exact retOut X135 hx Bd.returns rfl (by right; right; right; right; exact ⟨rfl, rfl, rfl⟩) (hb hby d1_122) hrT
    · show Q1 Z p0 v_VENAL v_DEADLY v_EAGLE_EYE v_EXPLOSIVE v_STEEL_FIST v_TYRANT v_FOREMAN v_GREEDY v_ELUSIVE v_STEALTHY v_UNPREDICTABLE v_BROTHER v_UNFATHOMABLE v_FORTUNATE v_MERCHANT v_SEER v_HEADHUNTER v_WARRIOR v_HUNTER v_MINER v_BLACKSMITH v_EXPLORER h0 n0 _ T135.heap _
      rw [e135]
      have c210 : Exa Z h135 v_FORTUNATE "com/example/runehall/runehall/tavern/Hero" := ((((c110.wr W111).wr W119).wr W127).wr W135)
      have c211 : Fld Z h135 v_FORTUNATE "com/example/runehall/runehall/tavern/Hero" "dwarfClass" "Lcom/example/runehall/runehall/tavern/DwarfClass;" .null := ((((((((((((((((((Fv_FORTUNATE_dwarfClass.ext E1).other W7 (Or.inl (Nat.ne_of_lt (Nat.lt_of_lt_of_le Fv_FORTUNATE_ordinal.lt (Nat.le_of_eq g1.symm))))).other W15 (Or.inl (Nat.ne_of_lt (Nat.lt_of_lt_of_le Fv_FORTUNATE_ordinal.lt (Nat.le_of_eq g1.symm))))).other W23 (Or.inl (Nat.ne_of_lt (Nat.lt_of_lt_of_le Fv_FORTUNATE_ordinal.lt (Nat.le_of_eq g1.symm))))).other W31 (Or.inl (Nat.ne_of_lt (Nat.lt_of_lt_of_le Fv_FORTUNATE_ordinal.lt (Nat.le_of_eq g1.symm))))).other W39 (Or.inl (Nat.ne_of_lt (Nat.lt_of_lt_of_le Fv_FORTUNATE_ordinal.lt (Nat.le_of_eq g1.symm))))).other W47 (Or.inl (Nat.ne_of_lt (Nat.lt_of_lt_of_le Fv_FORTUNATE_ordinal.lt (Nat.le_of_eq g1.symm))))).other W55 (Or.inl (Nat.ne_of_lt (Nat.lt_of_lt_of_le Fv_FORTUNATE_ordinal.lt (Nat.le_of_eq g1.symm))))).other W63 (Or.inl (Nat.ne_of_lt (Nat.lt_of_lt_of_le Fv_FORTUNATE_ordinal.lt (Nat.le_of_eq g1.symm))))).other W71 (Or.inl (Nat.ne_of_lt (Nat.lt_of_lt_of_le Fv_FORTUNATE_ordinal.lt (Nat.le_of_eq g1.symm))))).other W79 (Or.inl (Nat.ne_of_lt (Nat.lt_of_lt_of_le Fv_FORTUNATE_ordinal.lt (Nat.le_of_eq g1.symm))))).other W87 (Or.inl (Nat.ne_of_lt (Nat.lt_of_lt_of_le Fv_FORTUNATE_ordinal.lt (Nat.le_of_eq g1.symm))))).other W95 (Or.inl (Nat.ne_of_lt (Nat.lt_of_lt_of_le Fv_FORTUNATE_ordinal.lt (Nat.le_of_eq g1.symm))))).other W103 (Or.inl (Nat.ne_of_lt (Nat.lt_of_lt_of_le Fv_FORTUNATE_ordinal.lt (Nat.le_of_eq g1.symm))))).other W111 (Or.inl (Nat.ne_of_lt (Nat.lt_of_lt_of_le Fv_FORTUNATE_ordinal.lt (Nat.le_of_eq g1.symm))))).other W119 (Or.inl (Nat.ne_of_lt (Nat.lt_of_lt_of_le Fv_FORTUNATE_ordinal.lt (Nat.le_of_eq g1.symm))))).other W127 (Or.inl (Nat.ne_of_lt (Nat.lt_of_lt_of_le Fv_FORTUNATE_ordinal.lt (Nat.le_of_eq g1.symm))))).other W135 (Or.inl (Nat.ne_of_lt (Nat.lt_of_lt_of_le Fv_FORTUNATE_ordinal.lt (Nat.le_of_eq g1.symm)))))
      have c212 : Fld Z h135 v_FORTUNATE "java/lang/Enum" "ordinal" "I" (.int (13 : Int32)) := ((((((((((((((((((Fv_FORTUNATE_ordinal.ext E1).other W7 (Or.inl (Nat.ne_of_lt (Nat.lt_of_lt_of_le Fv_FORTUNATE_ordinal.lt (Nat.le_of_eq g1.symm))))).other W15 (Or.inl (Nat.ne_of_lt (Nat.lt_of_lt_of_le Fv_FORTUNATE_ordinal.lt (Nat.le_of_eq g1.symm))))).other W23 (Or.inl (Nat.ne_of_lt (Nat.lt_of_lt_of_le Fv_FORTUNATE_ordinal.lt (Nat.le_of_eq g1.symm))))).other W31 (Or.inl (Nat.ne_of_lt (Nat.lt_of_lt_of_le Fv_FORTUNATE_ordinal.lt (Nat.le_of_eq g1.symm))))).other W39 (Or.inl (Nat.ne_of_lt (Nat.lt_of_lt_of_le Fv_FORTUNATE_ordinal.lt (Nat.le_of_eq g1.symm))))).other W47 (Or.inl (Nat.ne_of_lt (Nat.lt_of_lt_of_le Fv_FORTUNATE_ordinal.lt (Nat.le_of_eq g1.symm))))).other W55 (Or.inl (Nat.ne_of_lt (Nat.lt_of_lt_of_le Fv_FORTUNATE_ordinal.lt (Nat.le_of_eq g1.symm))))).other W63 (Or.inl (Nat.ne_of_lt (Nat.lt_of_lt_of_le Fv_FORTUNATE_ordinal.lt (Nat.le_of_eq g1.symm))))).other W71 (Or.inl (Nat.ne_of_lt (Nat.lt_of_lt_of_le Fv_FORTUNATE_ordinal.lt (Nat.le_of_eq g1.symm))))).other W79 (Or.inl (Nat.ne_of_lt (Nat.lt_of_lt_of_le Fv_FORTUNATE_ordinal.lt (Nat.le_of_eq g1.symm))))).other W87 (Or.inl (Nat.ne_of_lt (Nat.lt_of_lt_of_le Fv_FORTUNATE_ordinal.lt (Nat.le_of_eq g1.symm))))).other W95 (Or.inl (Nat.ne_of_lt (Nat.lt_of_lt_of_le Fv_FORTUNATE_ordinal.lt (Nat.le_of_eq g1.symm))))).other W103 (Or.inl (Nat.ne_of_lt (Nat.lt_of_lt_of_le Fv_FORTUNATE_ordinal.lt (Nat.le_of_eq g1.symm))))).other W111 (Or.inl (Nat.ne_of_lt (Nat.lt_of_lt_of_le Fv_FORTUNATE_ordinal.lt (Nat.le_of_eq g1.symm))))).other W119 (Or.inl (Nat.ne_of_lt (Nat.lt_of_lt_of_le Fv_FORTUNATE_ordinal.lt (Nat.le_of_eq g1.symm))))).other W127 (Or.inl (Nat.ne_of_lt (Nat.lt_of_lt_of_le Fv_FORTUNATE_ordinal.lt (Nat.le_of_eq g1.symm))))).other W135 (Or.inl (Nat.ne_of_lt (Nat.lt_of_lt_of_le Fv_FORTUNATE_ordinal.lt (Nat.le_of_eq g1.symm)))))
      exact ⟨v_FORTUNATE, rfl, N138, K136, c210, (by rw [hq121_153, own_dc13]; exact c211), (by rw [hq121_153]; exact c212), (fun q => absurd (hq121_153.symm.trans q) (by decide))⟩
  · skip
    have hq121_154_0 : ¬ p0 = (0 : Int32) := by rw [hq121_154]; decide
    have hq121_154_1 : ¬ p0 = (1 : Int32) := by rw [hq121_154]; decide
    have hq121_154_2 : ¬ p0 = (2 : Int32) := by rw [hq121_154]; decide
    have hq121_154_3 : ¬ p0 = (3 : Int32) := by rw [hq121_154]; decide
    have hq121_154_4 : ¬ p0 = (4 : Int32) := by rw [hq121_154]; decide
    have hq121_154_5 : ¬ p0 = (5 : Int32) := by rw [hq121_154]; decide
    have hq121_154_6 : ¬ p0 = (6 : Int32) := by rw [hq121_154]; decide
    have hq121_154_7 : ¬ p0 = (7 : Int32) := by rw [hq121_154]; decide
    have hq121_154_8 : ¬ p0 = (8 : Int32) := by rw [hq121_154]; decide
    have hq121_154_9 : ¬ p0 = (9 : Int32) := by rw [hq121_154]; decide
    have hq121_154_10 : ¬ p0 = (10 : Int32) := by rw [hq121_154]; decide
    have hq121_154_11 : ¬ p0 = (11 : Int32) := by rw [hq121_154]; decide
    have hq121_154_12 : ¬ p0 = (12 : Int32) := by rw [hq121_154]; decide
    have hq121_154_13 : ¬ p0 = (13 : Int32) := by rw [hq121_154]; decide
    obtain ⟨cl213, Ar213, q213, S_213, N_213, H213, G213⟩ := c137
    have hin213 : ¬ (p0 < 0 ∨ cl213.slots.size ≤ (p0).toNatClampNeg) := inb_of S_213 ⟨by rw [hq121_154]; decide, by rw [hq121_154]; decide⟩
    have hat213 : cl213.slots[(p0).toNatClampNeg]? = some (.ref v_MERCHANT) := Has.at H213 hin213 (by rw [hq121_154]; rfl)
    obtain ⟨fs, hrT, hrunT, hendT, hWT, hsameT⟩ := X135.leave (v := some (.ref v_MERCHANT)) (fun h => by rw [Bd.returns] at h; cases h)
    refine ⟨_, _, S139 _ ?_, hrunT, hendT, _, _, rfl, ?_, ⟨_, rfl⟩, hWT, hsameT.mono (by decide) (by decide)⟩
    · show Steps p.tables e below (T135.setTop (mkF m 121 #[.val (.int p0), .val (.ref b1)] [(.int p0), (.ref b1)])) _
      refine X135.aaload hx (j := p0) (v := (.ref v_MERCHANT)) (by rw [e135]; exact Ar213.1) (State.isArrayOf_alike hZ.alike Ar213.2.1) rfl Ar213.2.2 hin213 hat213 (g := (mkF m 121 #[.val (.int p0), .val (.ref b1)] [(.int p0), (.ref b1)])) rfl rfl (hb hby d1_121) _ ?_
      show Steps p.tables e below (T135.setTop (mkF m 122 #[.val (.int p0), .val (.ref b1)] [(.ref v_MERCHANT)])) _
      exact retOut X135 hx Bd.returns rfl (by right; right; right; right; exact ⟨rfl, rfl, rfl⟩) (hb hby d1_122) hrT
    · show Q1 Z p0 v_VENAL v_DEADLY v_EAGLE_EYE v_EXPLOSIVE v_STEEL_FIST v_TYRANT v_FOREMAN v_GREEDY v_ELUSIVE v_STEALTHY v_UNPREDICTABLE v_BROTHER v_UNFATHOMABLE v_FORTUNATE v_MERCHANT v_SEER v_HEADHUNTER v_WARRIOR v_HUNTER v_MINER v_BLACKSMITH v_EXPLORER h0 n0 _ T135.heap _
      rw [e135]
      have c214 : Exa Z h135 v_MERCHANT "com/example/runehall/runehall/tavern/Hero" := (((c118.wr W119).wr W127).wr W135)
      have c215 : Fld Z h135 v_MERCHANT "com/example/runehall/runehall/tavern/Hero" "dwarfClass" "Lcom/example/runehall/runehall/tavern/DwarfClass;" .null := ((((((((((((((((((Fv_MERCHANT_dwarfClass.ext E1).other W7 (Or.inl (Nat.ne_of_lt (Nat.lt_of_lt_of_le Fv_MERCHANT_ordinal.lt (Nat.le_of_eq g1.symm))))).other W15 (Or.inl (Nat.ne_of_lt (Nat.lt_of_lt_of_le Fv_MERCHANT_ordinal.lt (Nat.le_of_eq g1.symm))))).other W23 (Or.inl (Nat.ne_of_lt (Nat.lt_of_lt_of_le Fv_MERCHANT_ordinal.lt (Nat.le_of_eq g1.symm))))).other W31 (Or.inl (Nat.ne_of_lt (Nat.lt_of_lt_of_le Fv_MERCHANT_ordinal.lt (Nat.le_of_eq g1.symm))))).other W39 (Or.inl (Nat.ne_of_lt (Nat.lt_of_lt_of_le Fv_MERCHANT_ordinal.lt (Nat.le_of_eq g1.symm))))).other W47 (Or.inl (Nat.ne_of_lt (Nat.lt_of_lt_of_le Fv_MERCHANT_ordinal.lt (Nat.le_of_eq g1.symm))))).other W55 (Or.inl (Nat.ne_of_lt (Nat.lt_of_lt_of_le Fv_MERCHANT_ordinal.lt (Nat.le_of_eq g1.symm))))).other W63 (Or.inl (Nat.ne_of_lt (Nat.lt_of_lt_of_le Fv_MERCHANT_ordinal.lt (Nat.le_of_eq g1.symm))))).other W71 (Or.inl (Nat.ne_of_lt (Nat.lt_of_lt_of_le Fv_MERCHANT_ordinal.lt (Nat.le_of_eq g1.symm))))).other W79 (Or.inl (Nat.ne_of_lt (Nat.lt_of_lt_of_le Fv_MERCHANT_ordinal.lt (Nat.le_of_eq g1.symm))))).other W87 (Or.inl (Nat.ne_of_lt (Nat.lt_of_lt_of_le Fv_MERCHANT_ordinal.lt (Nat.le_of_eq g1.symm))))).other W95 (Or.inl (Nat.ne_of_lt (Nat.lt_of_lt_of_le Fv_MERCHANT_ordinal.lt (Nat.le_of_eq g1.symm))))).other W103 (Or.inl (Nat.ne_of_lt (Nat.lt_of_lt_of_le Fv_MERCHANT_ordinal.lt (Nat.le_of_eq g1.symm))))).other W111 (Or.inl (Nat.ne_of_lt (Nat.lt_of_lt_of_le Fv_MERCHANT_ordinal.lt (Nat.le_of_eq g1.symm))))).other W119 (Or.inl (Nat.ne_of_lt (Nat.lt_of_lt_of_le Fv_MERCHANT_ordinal.lt (Nat.le_of_eq g1.symm))))).other W127 (Or.inl (Nat.ne_of_lt (Nat.lt_of_lt_of_le Fv_MERCHANT_ordinal.lt (Nat.le_of_eq g1.symm))))).other W135 (Or.inl (Nat.ne_of_lt (Nat.lt_of_lt_of_le Fv_MERCHANT_ordinal.lt (Nat.le_of_eq g1.symm)))))
      have c216 : Fld Z h135 v_MERCHANT "java/lang/Enum" "ordinal" "I" (.int (14 : Int32)) := ((((((((((((((((((Fv_MERCHANT_ordinal.ext E1).other W7 (Or.inl (Nat.ne_of_lt (Nat.lt_of_lt_of_le Fv_MERCHANT_ordinal.lt (Nat.le_of_eq g1.symm))))).other W15 (Or.inl (Nat.ne_of_lt (Nat.lt_of_lt_of_le Fv_MERCHANT_ordinal.lt (Nat.le_of_eq g1.symm))))).other W23 (Or.inl (Nat.ne_of_lt (Nat.lt_of_lt_of_le Fv_MERCHANT_ordinal.lt (Nat.le_of_eq g1.symm))))).other W31 (Or.inl (Nat.ne_of_lt (Nat.lt_of_lt_of_le Fv_MERCHANT_ordinal.lt (Nat.le_of_eq g1.symm))))).other W39 (Or.inl (Nat.ne_of_lt (Nat.lt_of_lt_of_le Fv_MERCHANT_ordinal.lt (Nat.le_of_eq g1.symm))))).other W47 (Or.inl (Nat.ne_of_lt (Nat.lt_of_lt_of_le Fv_MERCHANT_ordinal.lt (Nat.le_of_eq g1.symm))))).other W55 (Or.inl (Nat.ne_of_lt (Nat.lt_of_lt_of_le Fv_MERCHANT_ordinal.lt (Nat.le_of_eq g1.symm))))).other W63 (Or.inl (Nat.ne_of_lt (Nat.lt_of_lt_of_le Fv_MERCHANT_ordinal.lt (Nat.le_of_eq g1.symm))))).other W71 (Or.inl (Nat.ne_of_lt (Nat.lt_of_lt_of_le Fv_MERCHANT_ordinal.lt (Nat.le_of_eq g1.symm))))).other W79 (Or.inl (Nat.ne_of_lt (Nat.lt_of_lt_of_le Fv_MERCHANT_ordinal.lt (Nat.le_of_eq g1.symm))))).other W87 (Or.inl (Nat.ne_of_lt (Nat.lt_of_lt_of_le Fv_MERCHANT_ordinal.lt (Nat.le_of_eq g1.symm))))).other W95 (Or.inl (Nat.ne_of_lt (Nat.lt_of_lt_of_le Fv_MERCHANT_ordinal.lt (Nat.le_of_eq g1.symm))))).other W103 (Or.inl (Nat.ne_of_lt (Nat.lt_of_lt_of_le Fv_MERCHANT_ordinal.lt (Nat.le_of_eq g1.symm))))).other W111 (Or.inl (Nat.ne_of_lt (Nat.lt_of_lt_of_le Fv_MERCHANT_ordinal.lt (Nat.le_of_eq g1.symm))))).other W119 (Or.inl (Nat.ne_of_lt (Nat.lt_of_lt_of_le Fv_MERCHANT_ordinal.lt (Nat.le_of_eq g1.symm))))).other W127 (Or.inl (Nat.ne_of_lt (Nat.lt_of_lt_of_le Fv_MERCHANT_ordinal.lt (Nat.le_of_eq g1.symm))))).other W135 (Or.inl (Nat.ne_of_lt (Nat.lt_of_lt_of_le Fv_MERCHANT_ordinal.lt (Nat.le_of_eq g1.symm)))))
      exact ⟨v_MERCHANT, rfl, N138, K136, c214, (by rw [hq121_154, own_dc14]; exact c215), (by rw [hq121_154]; exact c216), (fun q => absurd (hq121_154.symm.trans q) (by decide))⟩
  · skip
    have hq121_155_0 : ¬ p0 = (0 : Int32) := by rw [hq121_155]; decide
    have hq121_155_1 : ¬ p0 = (1 : Int32) := by rw [hq121_155]; decide
    have hq121_155_2 : ¬ p0 = (2 : Int32) := by rw [hq121_155]; decide
    have hq121_155_3 : ¬ p0 = (3 : Int32) := by rw [hq121_155]; decide
    have hq121_155_4 : ¬ p0 = (4 : Int32) := by rw [hq121_155]; decide
    have hq121_155_5 : ¬ p0 = (5 : Int32) := by rw [hq121_155]; decide
    have hq121_155_6 : ¬ p0 = (6 : Int32) := by rw [hq121_155]; decide
    have hq121_155_7 : ¬ p0 = (7 : Int32) := by rw [hq121_155]; decide
    have hq121_155_8 : ¬ p0 = (8 : Int32) := by rw [hq121_155]; decide
    have hq121_155_9 : ¬ p0 = (9 : Int32) := by rw [hq121_155]; decide
    have hq121_155_10 : ¬ p0 = (10 : Int32) := by rw [hq121_155]; decide
    have hq121_155_11 : ¬ p0 = (11 : Int32) := by rw [hq121_155]; decide
    have hq121_155_12 : ¬ p0 = (12 : Int32) := by rw [hq121_155]; decide
    have hq121_155_13 : ¬ p0 = (13 : Int32) := by rw [hq121_155]; decide
    have hq121_155_14 : ¬ p0 = (14 : Int32) := by rw [hq121_155]; decide
    obtain ⟨cl217, Ar217, q217, S_217, N_217, H217, G217⟩ := c137
    have hin217 : ¬ (p0 < 0 ∨ cl217.slots.size ≤ (p0).toNatClampNeg) := inb_of S_217 ⟨by rw [hq121_155]; decide, by rw [hq121_155]; decide⟩
    have hat217 : cl217.slots[(p0).toNatClampNeg]? = some (.ref v_SEER) := Has.at H217 hin217 (by rw [hq121_155]; rfl)
    obtain ⟨fs, hrT, hrunT, hendT, hWT, hsameT⟩ := X135.leave (v := some (.ref v_SEER)) (fun h => by rw [Bd.returns] at h; cases h)
    refine ⟨_, _, S139 _ ?_, hrunT, hendT, _, _, rfl, ?_, ⟨_, rfl⟩, hWT, hsameT.mono (by decide) (by decide)⟩
    · show Steps p.tables e below (T135.setTop (mkF m 121 #[.val (.int p0), .val (.ref b1)] [(.int p0), (.ref b1)])) _
      refine X135.aaload hx (j := p0) (v := (.ref v_SEER)) (by rw [e135]; exact Ar217.1) (State.isArrayOf_alike hZ.alike Ar217.2.1) rfl Ar217.2.2 hin217 hat217 (g := (mkF m 121 #[.val (.int p0), .val (.ref b1)] [(.int p0), (.ref b1)])) rfl rfl (hb hby d1_121) _ ?_
      show Steps p.tables e below (T135.setTop (mkF m 122 #[.val (.int p0), .val (.ref b1)] [(.ref v_SEER)])) _
      exact retOut X135 hx Bd.returns rfl (by right; right; right; right; exact ⟨rfl, rfl, rfl⟩) (hb hby d1_122) hrT
    · show Q1 Z p0 v_VENAL v_DEADLY v_EAGLE_EYE v_EXPLOSIVE v_STEEL_FIST v_TYRANT v_FOREMAN v_GREEDY v_ELUSIVE v_STEALTHY v_UNPREDICTABLE v_BROTHER v_UNFATHOMABLE v_FORTUNATE v_MERCHANT v_SEER v_HEADHUNTER v_WARRIOR v_HUNTER v_MINER v_BLACKSMITH v_EXPLORER h0 n0 _ T135.heap _
      rw [e135]
      have c218 : Exa Z h135 v_SEER "com/example/runehall/runehall/tavern/Hero" := ((c126.wr W127).wr W135)
      have c219 : Fld Z h135 v_SEER "com/example/runehall/runehall/tavern/Hero" "dwarfClass" "Lcom/example/runehall/runehall/tavern/DwarfClass;" .null := ((((((((((((((((((Fv_SEER_dwarfClass.ext E1).other W7 (Or.inl (Nat.ne_of_lt (Nat.lt_of_lt_of_le Fv_SEER_ordinal.lt (Nat.le_of_eq g1.symm))))).other W15 (Or.inl (Nat.ne_of_lt (Nat.lt_of_lt_of_le Fv_SEER_ordinal.lt (Nat.le_of_eq g1.symm))))).other W23 (Or.inl (Nat.ne_of_lt (Nat.lt_of_lt_of_le Fv_SEER_ordinal.lt (Nat.le_of_eq g1.symm))))).other W31 (Or.inl (Nat.ne_of_lt (Nat.lt_of_lt_of_le Fv_SEER_ordinal.lt (Nat.le_of_eq g1.symm))))).other W39 (Or.inl (Nat.ne_of_lt (Nat.lt_of_lt_of_le Fv_SEER_ordinal.lt (Nat.le_of_eq g1.symm))))).other W47 (Or.inl (Nat.ne_of_lt (Nat.lt_of_lt_of_le Fv_SEER_ordinal.lt (Nat.le_of_eq g1.symm))))).other W55 (Or.inl (Nat.ne_of_lt (Nat.lt_of_lt_of_le Fv_SEER_ordinal.lt (Nat.le_of_eq g1.symm))))).other W63 (Or.inl (Nat.ne_of_lt (Nat.lt_of_lt_of_le Fv_SEER_ordinal.lt (Nat.le_of_eq g1.symm))))).other W71 (Or.inl (Nat.ne_of_lt (Nat.lt_of_lt_of_le Fv_SEER_ordinal.lt (Nat.le_of_eq g1.symm))))).other W79 (Or.inl (Nat.ne_of_lt (Nat.lt_of_lt_of_le Fv_SEER_ordinal.lt (Nat.le_of_eq g1.symm))))).other W87 (Or.inl (Nat.ne_of_lt (Nat.lt_of_lt_of_le Fv_SEER_ordinal.lt (Nat.le_of_eq g1.symm))))).other W95 (Or.inl (Nat.ne_of_lt (Nat.lt_of_lt_of_le Fv_SEER_ordinal.lt (Nat.le_of_eq g1.symm))))).other W103 (Or.inl (Nat.ne_of_lt (Nat.lt_of_lt_of_le Fv_SEER_ordinal.lt (Nat.le_of_eq g1.symm))))).other W111 (Or.inl (Nat.ne_of_lt (Nat.lt_of_lt_of_le Fv_SEER_ordinal.lt (Nat.le_of_eq g1.symm))))).other W119 (Or.inl (Nat.ne_of_lt (Nat.lt_of_lt_of_le Fv_SEER_ordinal.lt (Nat.le_of_eq g1.symm))))).other W127 (Or.inl (Nat.ne_of_lt (Nat.lt_of_lt_of_le Fv_SEER_ordinal.lt (Nat.le_of_eq g1.symm))))).other W135 (Or.inl (Nat.ne_of_lt (Nat.lt_of_lt_of_le Fv_SEER_ordinal.lt (Nat.le_of_eq g1.symm)))))
      have c220 : Fld Z h135 v_SEER "java/lang/Enum" "ordinal" "I" (.int (15 : Int32)) := ((((((((((((((((((Fv_SEER_ordinal.ext E1).other W7 (Or.inl (Nat.ne_of_lt (Nat.lt_of_lt_of_le Fv_SEER_ordinal.lt (Nat.le_of_eq g1.symm))))).other W15 (Or.inl (Nat.ne_of_lt (Nat.lt_of_lt_of_le Fv_SEER_ordinal.lt (Nat.le_of_eq g1.symm))))).other W23 (Or.inl (Nat.ne_of_lt (Nat.lt_of_lt_of_le Fv_SEER_ordinal.lt (Nat.le_of_eq g1.symm))))).other W31 (Or.inl (Nat.ne_of_lt (Nat.lt_of_lt_of_le Fv_SEER_ordinal.lt (Nat.le_of_eq g1.symm))))).other W39 (Or.inl (Nat.ne_of_lt (Nat.lt_of_lt_of_le Fv_SEER_ordinal.lt (Nat.le_of_eq g1.symm))))).other W47 (Or.inl (Nat.ne_of_lt (Nat.lt_of_lt_of_le Fv_SEER_ordinal.lt (Nat.le_of_eq g1.symm))))).other W55 (Or.inl (Nat.ne_of_lt (Nat.lt_of_lt_of_le Fv_SEER_ordinal.lt (Nat.le_of_eq g1.symm))))).other W63 (Or.inl (Nat.ne_of_lt (Nat.lt_of_lt_of_le Fv_SEER_ordinal.lt (Nat.le_of_eq g1.symm))))).other W71 (Or.inl (Nat.ne_of_lt (Nat.lt_of_lt_of_le Fv_SEER_ordinal.lt (Nat.le_of_eq g1.symm))))).other W79 (Or.inl (Nat.ne_of_lt (Nat.lt_of_lt_of_le Fv_SEER_ordinal.lt (Nat.le_of_eq g1.symm))))).other W87 (Or.inl (Nat.ne_of_lt (Nat.lt_of_lt_of_le Fv_SEER_ordinal.lt (Nat.le_of_eq g1.symm))))).other W95 (Or.inl (Nat.ne_of_lt (Nat.lt_of_lt_of_le Fv_SEER_ordinal.lt (Nat.le_of_eq g1.symm))))).other W103 (Or.inl (Nat.ne_of_lt (Nat.lt_of_lt_of_le Fv_SEER_ordinal.lt (Nat.le_of_eq g1.symm))))).other W111 (Or.inl (Nat.ne_of_lt (Nat.lt_of_lt_of_le Fv_SEER_ordinal.lt (Nat.le_of_eq g1.symm))))).other W119 (Or.inl (Nat.ne_of_lt (Nat.lt_of_lt_of_le Fv_SEER_ordinal.lt (Nat.le_of_eq g1.symm))))).other W127 (Or.inl (Nat.ne_of_lt (Nat.lt_of_lt_of_le Fv_SEER_ordinal.lt (Nat.le_of_eq g1.symm))))).other W135 (Or.inl (Nat.ne_of_lt (Nat.lt_of_lt_of_le Fv_SEER_ordinal.lt (Nat.le_of_eq g1.symm)))))
      exact ⟨v_SEER, rfl, N138, K136, c218, (by rw [hq121_155, own_dc15]; exact c219), (by rw [hq121_155]; exact c220), (fun q => absurd (hq121_155.symm.trans q) (by decide))⟩
  · skip
    have hq121_156_0 : ¬ p0 = (0 : Int32) := by rw [hq121_156]; decide
    have hq121_156_1 : ¬ p0 = (1 : Int32) := by rw [hq121_156]; decide
    have hq121_156_2 : ¬ p0 = (2 : Int32) := by rw [hq121_156]; decide
    have hq121_156_3 : ¬ p0 = (3 : Int32) := by rw [hq121_156]; decide
    have hq121_156_4 : ¬ p0 = (4 : Int32) := by rw [hq121_156]; decide
    have hq121_156_5 : ¬ p0 = (5 : Int32) := by rw [hq121_156]; decide
    have hq121_156_6 : ¬ p0 = (6 : Int32) := by rw [hq121_156]; decide
    have hq121_156_7 : ¬ p0 = (7 : Int32) := by rw [hq121_156]; decide
    have hq121_156_8 : ¬ p0 = (8 : Int32) := by rw [hq121_156]; decide
    have hq121_156_9 : ¬ p0 = (9 : Int32) := by rw [hq121_156]; decide
    have hq121_156_10 : ¬ p0 = (10 : Int32) := by rw [hq121_156]; decide
    have hq121_156_11 : ¬ p0 = (11 : Int32) := by rw [hq121_156]; decide
    have hq121_156_12 : ¬ p0 = (12 : Int32) := by rw [hq121_156]; decide
    have hq121_156_13 : ¬ p0 = (13 : Int32) := by rw [hq121_156]; decide
    have hq121_156_14 : ¬ p0 = (14 : Int32) := by rw [hq121_156]; decide
    have hq121_156_15 : ¬ p0 = (15 : Int32) := by rw [hq121_156]; decide
    obtain ⟨cl221, Ar221, q221, S_221, N_221, H221, G221⟩ := c137
    have hin221 : ¬ (p0 < 0 ∨ cl221.slots.size ≤ (p0).toNatClampNeg) := inb_of S_221 ⟨by rw [hq121_156]; decide, by rw [hq121_156]; decide⟩
    have hat221 : cl221.slots[(p0).toNatClampNeg]? = some (.ref v_HEADHUNTER) := Has.at H221 hin221 (by rw [hq121_156]; rfl)
    obtain ⟨fs, hrT, hrunT, hendT, hWT, hsameT⟩ := X135.leave (v := some (.ref v_HEADHUNTER)) (fun h => by rw [Bd.returns] at h; cases h)
    refine ⟨_, _, S139 _ ?_, hrunT, hendT, _, _, rfl, ?_, ⟨_, rfl⟩, hWT, hsameT.mono (by decide) (by decide)⟩
    · show Steps p.tables e below (T135.setTop (mkF m 121 #[.val (.int p0), .val (.ref b1)] [(.int p0), (.ref b1)])) _
      refine X135.aaload hx (j := p0) (v := (.ref v_HEADHUNTER)) (by rw [e135]; exact Ar221.1) (State.isArrayOf_alike hZ.alike Ar221.2.1) rfl Ar221.2.2 hin221 hat221 (g := (mkF m 121 #[.val (.int p0), .val (.ref b1)] [(.int p0), (.ref b1)])) rfl rfl (hb hby d1_121) _ ?_
      show Steps p.tables e below (T135.setTop (mkF m 122 #[.val (.int p0), .val (.ref b1)] [(.ref v_HEADHUNTER)])) _
      exact retOut X135 hx Bd.returns rfl (by right; right; right; right; exact ⟨rfl, rfl, rfl⟩) (hb hby d1_122) hrT
    · show Q1 Z p0 v_VENAL v_DEADLY v_EAGLE_EYE v_EXPLOSIVE v_STEEL_FIST v_TYRANT v_FOREMAN v_GREEDY v_ELUSIVE v_STEALTHY v_UNPREDICTABLE v_BROTHER v_UNFATHOMABLE v_FORTUNATE v_MERCHANT v_SEER v_HEADHUNTER v_WARRIOR v_HUNTER v_MINER v_BLACKSMITH v_EXPLORER h0 n0 _ T135.heap _
      rw [e135]
      have c222 : Exa Z h135 v_HEADHUNTER "com/example/runehall/runehall/tavern/Hero" := (c134.wr W135)
      have c223 : Fld Z h135 v_HEADHUNTER "com/example/runehall/runehall/tavern/Hero" "dwarfClass" "Lcom/example/runehall/runehall/tavern/DwarfClass;" .null := ((((((((((((((((((Fv_HEADHUNTER_dwarfClass.ext E1).other W7 (Or.inl (Nat.ne_of_lt (Nat.lt_of_lt_of_le Fv_HEADHUNTER_ordinal.lt (Nat.le_of_eq g1.symm))))).other W15 (Or.inl (Nat.ne_of_lt (Nat.lt_of_lt_of_le Fv_HEADHUNTER_ordinal.lt (Nat.le_of_eq g1.symm))))).other W23 (Or.inl (Nat.ne_of_lt (Nat.lt_of_lt_of_le Fv_HEADHUNTER_ordinal.lt (Nat.le_of_eq g1.symm))))).other W31 (Or.inl (Nat.ne_of_lt (Nat.lt_of_lt_of_le Fv_HEADHUNTER_ordinal.lt (Nat.le_of_eq g1.symm))))).other W39 (Or.inl (Nat.ne_of_lt (Nat.lt_of_lt_of_le Fv_HEADHUNTER_ordinal.lt (Nat.le_of_eq g1.symm))))).other W47 (Or.inl (Nat.ne_of_lt (Nat.lt_of_lt_of_le Fv_HEADHUNTER_ordinal.lt (Nat.le_of_eq g1.symm))))).other W55 (Or.inl (Nat.ne_of_lt (Nat.lt_of_lt_of_le Fv_HEADHUNTER_ordinal.lt (Nat.le_of_eq g1.symm))))).other W63 (Or.inl (Nat.ne_of_lt (Nat.lt_of_lt_of_le Fv_HEADHUNTER_ordinal.lt (Nat.le_of_eq g1.symm))))).other W71 (Or.inl (Nat.ne_of_lt (Nat.lt_of_lt_of_le Fv_HEADHUNTER_ordinal.lt (Nat.le_of_eq g1.symm))))).other W79 (Or.inl (Nat.ne_of_lt (Nat.lt_of_lt_of_le Fv_HEADHUNTER_ordinal.lt (Nat.le_of_eq g1.symm))))).other W87 (Or.inl (Nat.ne_of_lt (Nat.lt_of_lt_of_le Fv_HEADHUNTER_ordinal.lt (Nat.le_of_eq g1.symm))))).other W95 (Or.inl (Nat.ne_of_lt (Nat.lt_of_lt_of_le Fv_HEADHUNTER_ordinal.lt (Nat.le_of_eq g1.symm))))).other W103 (Or.inl (Nat.ne_of_lt (Nat.lt_of_lt_of_le Fv_HEADHUNTER_ordinal.lt (Nat.le_of_eq g1.symm))))).other W111 (Or.inl (Nat.ne_of_lt (Nat.lt_of_lt_of_le Fv_HEADHUNTER_ordinal.lt (Nat.le_of_eq g1.symm))))).other W119 (Or.inl (Nat.ne_of_lt (Nat.lt_of_lt_of_le Fv_HEADHUNTER_ordinal.lt (Nat.le_of_eq g1.symm))))).other W127 (Or.inl (Nat.ne_of_lt (Nat.lt_of_lt_of_le Fv_HEADHUNTER_ordinal.lt (Nat.le_of_eq g1.symm))))).other W135 (Or.inl (Nat.ne_of_lt (Nat.lt_of_lt_of_le Fv_HEADHUNTER_ordinal.lt (Nat.le_of_eq g1.symm)))))
      have c224 : Fld Z h135 v_HEADHUNTER "java/lang/Enum" "ordinal" "I" (.int (16 : Int32)) := ((((((((((((((((((Fv_HEADHUNTER_ordinal.ext E1).other W7 (Or.inl (Nat.ne_of_lt (Nat.lt_of_lt_of_le Fv_HEADHUNTER_ordinal.lt (Nat.le_of_eq g1.symm))))).other W15 (Or.inl (Nat.ne_of_lt (Nat.lt_of_lt_of_le Fv_HEADHUNTER_ordinal.lt (Nat.le_of_eq g1.symm))))).other W23 (Or.inl (Nat.ne_of_lt (Nat.lt_of_lt_of_le Fv_HEADHUNTER_ordinal.lt (Nat.le_of_eq g1.symm))))).other W31 (Or.inl (Nat.ne_of_lt (Nat.lt_of_lt_of_le Fv_HEADHUNTER_ordinal.lt (Nat.le_of_eq g1.symm))))).other W39 (Or.inl (Nat.ne_of_lt (Nat.lt_of_lt_of_le Fv_HEADHUNTER_ordinal.lt (Nat.le_of_eq g1.symm))))).other W47 (Or.inl (Nat.ne_of_lt (Nat.lt_of_lt_of_le Fv_HEADHUNTER_ordinal.lt (Nat.le_of_eq g1.symm))))).other W55 (Or.inl (Nat.ne_of_lt (Nat.lt_of_lt_of_le Fv_HEADHUNTER_ordinal.lt (Nat.le_of_eq g1.symm))))).other W63 (Or.inl (Nat.ne_of_lt (Nat.lt_of_lt_of_le Fv_HEADHUNTER_ordinal.lt (Nat.le_of_eq g1.symm))))).other W71 (Or.inl (Nat.ne_of_lt (Nat.lt_of_lt_of_le Fv_HEADHUNTER_ordinal.lt (Nat.le_of_eq g1.symm))))).other W79 (Or.inl (Nat.ne_of_lt (Nat.lt_of_lt_of_le Fv_HEADHUNTER_ordinal.lt (Nat.le_of_eq g1.symm))))).other W87 (Or.inl (Nat.ne_of_lt (Nat.lt_of_lt_of_le Fv_HEADHUNTER_ordinal.lt (Nat.le_of_eq g1.symm))))).other W95 (Or.inl (Nat.ne_of_lt (Nat.lt_of_lt_of_le Fv_HEADHUNTER_ordinal.lt (Nat.le_of_eq g1.symm))))).other W103 (Or.inl (Nat.ne_of_lt (Nat.lt_of_lt_of_le Fv_HEADHUNTER_ordinal.lt (Nat.le_of_eq g1.symm))))).other W111 (Or.inl (Nat.ne_of_lt (Nat.lt_of_lt_of_le Fv_HEADHUNTER_ordinal.lt (Nat.le_of_eq g1.symm))))).other W119 (Or.inl (Nat.ne_of_lt (Nat.lt_of_lt_of_le Fv_HEADHUNTER_ordinal.lt (Nat.le_of_eq g1.symm))))).other W127 (Or.inl (Nat.ne_of_lt (Nat.lt_of_lt_of_le Fv_HEADHUNTER_ordinal.lt (Nat.le_of_eq g1.symm))))).other W135 (Or.inl (Nat.ne_of_lt (Nat.lt_of_lt_of_le Fv_HEADHUNTER_ordinal.lt (Nat.le_of_eq g1.symm)))))
      exact ⟨v_HEADHUNTER, rfl, N138, K136, c222, (by rw [hq121_156, own_dc16]; exact c223), (by rw [hq121_156]; exact c224), (fun q => absurd (hq121_156.symm.trans q) (by decide))⟩
theorem d2_0 : decode method_3_code 0 = .ok (.iconst 5, 1) := by decide +kernel
theorem d2_1 : decode method_3_code 1 = .ok (.anewarray 61, 3) := by decide +kernel
theorem d2_4 : decode method_3_code 4 = .ok (.dup, 1) := by decide +kernel
theorem d2_5 : decode method_3_code 5 = .ok (.iconst 0, 1) := by decide +kernel
theorem d2_6 : decode method_3_code 6 = .ok (.getstatic 63, 3) := by decide +kernel
theorem d2_9 : decode method_3_code 9 = .ok (.aastore, 1) := by decide +kernel
theorem d2_10 : decode method_3_code 10 = .ok (.dup, 1) := by decide +kernel
theorem d2_11 : decode method_3_code 11 = .ok (.iconst 1, 1) := by decide +kernel
theorem d2_12 : decode method_3_code 12 = .ok (.getstatic 67, 3) := by decide +kernel
theorem d2_15 : decode method_3_code 15 = .ok (.aastore, 1) := by decide +kernel
theorem d2_16 : decode method_3_code 16 = .ok (.dup, 1) := by decide +kernel
theorem d2_17 : decode method_3_code 17 = .ok (.iconst 2, 1) := by decide +kernel
theorem d2_18 : decode method_3_code 18 = .ok (.getstatic 70, 3) := by decide +kernel
theorem d2_21 : decode method_3_code 21 = .ok (.aastore, 1) := by decide +kernel
theorem d2_22 : decode method_3_code 22 = .ok (.dup, 1) := by decide +kernel
theorem d2_23 : decode method_3_code 23 = .ok (.iconst 3, 1) := by decide +kernel
theorem d2_24 : decode method_3_code 24 = .ok (.getstatic 73, 3) := by decide +kernel
theorem d2_27 : decode method_3_code 27 = .ok (.aastore, 1) := by decide +kernel
theorem d2_28 : decode method_3_code 28 = .ok (.dup, 1) := by decide +kernel
theorem d2_29 : decode method_3_code 29 = .ok (.iconst 4, 1) := by decide +kernel
theorem d2_30 : decode method_3_code 30 = .ok (.getstatic 76, 3) := by decide +kernel
theorem d2_33 : decode method_3_code 33 = .ok (.aastore, 1) := by decide +kernel
theorem d2_34 : decode method_3_code 34 = .ok (.astore_n 1, 1) := by decide +kernel
theorem d2_35 : decode method_3_code 35 = .ok (.aload_n 1, 1) := by decide +kernel
theorem d2_36 : decode method_3_code 36 = .ok (.iload_n 0, 1) := by decide +kernel
theorem d2_37 : decode method_3_code 37 = .ok (.aaload, 1) := by decide +kernel
theorem d2_38 : decode method_3_code 38 = .ok (.areturn, 1) := by decide +kernel
def f_col (p0 : Int32) (v_WARRIOR : Addr) (v_HUNTER : Addr) (v_MINER : Addr) (v_BLACKSMITH : Addr) (v_EXPLORER : Addr) : Addr := (if p0 = (0 : Int32) then v_WARRIOR else (if p0 = (1 : Int32) then v_HUNTER else (if p0 = (2 : Int32) then v_MINER else (if p0 = (3 : Int32) then v_BLACKSMITH else v_EXPLORER))))
theorem ef2 (m : MethodId) (x0 : Int32) : entryFrame m #[(.int x0)] 2 = mkF m 0 #[.val (.int x0), .unset] [] := by first | (simp [entryFrame, mkF, argsToLocals, Value.category]; done) | rfl
def Q2 (Z : State) (p0 : Int32) (v_WARRIOR : Addr) (v_HUNTER : Addr) (v_MINER : Addr) (v_BLACKSMITH : Addr) (v_EXPLORER : Addr) (h0 : Heap) (n0 : Nat) (v : Option Value) (h : Heap) (L : List Loc) : Prop := v = some (.ref (f_col p0 v_WARRIOR v_HUNTER v_MINER v_BLACKSMITH v_EXPLORER)) ∧ Fr n0 L ∧ Keep h0 h []
set_option maxRecDepth 65536 in
set_option maxHeartbeats 40000000 in
theorem rm2 (l : Launch) (Z : State) (a0 : Array Value) (hw : ∀ d ∈ tables_1, d.before a0 Z = true) (ws : List Jvm.Cond) (p0 : Int32) (v_WARRIOR : Addr) (v_HUNTER : Addr) (v_MINER : Addr) (v_BLACKSMITH : Addr) (v_EXPLORER : Addr) (h0 : Heap) (n0 : Nat) (Z0 : n0 ≤ h0.size) (hr : 0 ≤ p0.toInt ∧ p0.toInt < 5) (Sv_WARRIOR : Sta Z h0 "com/example/runehall/runehall/tavern/DwarfClass" "WARRIOR" "Lcom/example/runehall/runehall/tavern/DwarfClass;" (.ref v_WARRIOR)) (Ev_WARRIOR : Exa Z h0 v_WARRIOR "com/example/runehall/runehall/tavern/DwarfClass") (Sv_HUNTER : Sta Z h0 "com/example/runehall/runehall/tavern/DwarfClass" "HUNTER" "Lcom/example/runehall/runehall/tavern/DwarfClass;" (.ref v_HUNTER)) (Ev_HUNTER : Exa Z h0 v_HUNTER "com/example/runehall/runehall/tavern/DwarfClass") (Sv_MINER : Sta Z h0 "com/example/runehall/runehall/tavern/DwarfClass" "MINER" "Lcom/example/runehall/runehall/tavern/DwarfClass;" (.ref v_MINER)) (Ev_MINER : Exa Z h0 v_MINER "com/example/runehall/runehall/tavern/DwarfClass") (Sv_BLACKSMITH : Sta Z h0 "com/example/runehall/runehall/tavern/DwarfClass" "BLACKSMITH" "Lcom/example/runehall/runehall/tavern/DwarfClass;" (.ref v_BLACKSMITH)) (Ev_BLACKSMITH : Exa Z h0 v_BLACKSMITH "com/example/runehall/runehall/tavern/DwarfClass") (Sv_EXPLORER : Sta Z h0 "com/example/runehall/runehall/tavern/DwarfClass" "EXPLORER" "Lcom/example/runehall/runehall/tavern/DwarfClass;" (.ref v_EXPLORER)) (Ev_EXPLORER : Exa Z h0 v_EXPLORER "com/example/runehall/runehall/tavern/DwarfClass") :
    MetFree l (⟨"com/example/runehall/runehall/tavern/HeroMayEndInPinLaw", "column", "(I)Lcom/example/runehall/runehall/tavern/DwarfClass;"⟩ : MethodName) (head1 (Jvm.Cond.code (⟨"com/example/runehall/runehall/tavern/HeroMayEndInPinLaw", "column", "(I)Lcom/example/runehall/runehall/tavern/DwarfClass;"⟩ : MethodName) method_3_code 2 (some (.object "com/example/runehall/runehall/tavern/DwarfClass")) :: ws) ({ frames := 0, cells := 1, slots := 5, locals := 0 } : Room)) (fun a U => a = #[(.int p0)] ∧ Z.Warmed39 U.vm ∧ U.heap = h0) (fun _ _ _ _ _ => True) (fun _ U o U' => ∃ v L, o = .returned v ∧ Q2 Z p0 v_WARRIOR v_HUNTER v_MINER v_BLACKSMITH v_EXPLORER h0 n0 v U'.heap L ∧ FrameEnd U o U' L ({ frames := 0, cells := 1, slots := 5, locals := 0 } : Room).cells ({ frames := 0, cells := 1, slots := 5, locals := 0 } : Room).slots) := by
  refine MetFree.of_bodySF (plainFor_of_name pn_HeroMayEndInPinLaw) hisR ?_
  intro p e s m args below meth c s₁ Bd hml0 hP hK
  obtain ⟨rfl, hZ, hh⟩ := hP
  have hx := Bd.exec
  have hby := Bd.bytes
  have hml : c.maxLocals = 2 := hml0
  have hown : s.vm.findClass "com/example/runehall/runehall/tavern/HeroMayEndInPinLaw" = some m.cls := findClass_of_methodNamed Bd.named
  have hnm := (name_of_methodNamed Bd.named Bd.method).1
  have X0 : Stand p l e ({ frames := 0, cells := 1, slots := 5, locals := 0 } : Room) s m #[(.int p0)] below meth c s₁ [] 0 0 := Stand.of_body Bd
  have e0 : s₁.heap = h0 := by rw [← hh, Bd.state]; rfl
  have N0 := Fr.nil n0
  have pre0 : ∀ t, Steps p.tables e below (s₁.setTop (mkF m 0 #[.val (.int p0), .unset] [])) t → Steps p.tables e below (s₁.setTop (entryFrame m #[(.int p0)] 2)) t := fun t k => castTop (ef2 m p0) k
  obtain ⟨T225, h225, k225, X225, e225, E225, A225, O225, st225⟩ := newR X0 hx hZ hown (hw _ (List.mem_of_getElem? (i := 46) rfl)) (hw _ (List.mem_of_getElem? (i := 47) rfl)) e0 (g := (mkF m 1 #[.val (.int p0), .unset] [(.int (5 : Int32))])) rfl (hb hby d2_1) rfl (by decide) (cap := 5) (by decide) (by decide) (by decide) (by decide)
  obtain ⟨b225, g225⟩ : ∃ z, z = h0.size := ⟨_, rfl⟩
  rw [← g225] at A225 st225
  have ge_b225 : n0 ≤ b225 := Nat.le_trans Z0 (Nat.le_of_eq g225.symm)
  have sz_b225 : h0.size ≤ b225 := Nat.le_of_eq g225.symm
  have K226 : Keep h0 h225 [] := (Keep.refl h0 []).ext E225
  have V225 : Arv Z h225 b225 k225 (.object "com/example/runehall/runehall/tavern/DwarfClass") (5 : Int32) [.null, .null, .null, .null, .null] .null := (Arv.new A225 (by decide)).pad (pad_rep [] .null 5)
  have c227 : Sta Z h225 "com/example/runehall/runehall/tavern/DwarfClass" "WARRIOR" "Lcom/example/runehall/runehall/tavern/DwarfClass;" (.ref v_WARRIOR) := (Sv_WARRIOR.ext E225)
  obtain ⟨T228, X228, e228, st228⟩ := getS2 X225 hx hZ hown (host := "") (Or.inl (hw _ (List.mem_of_getElem? (i := 48) rfl))) Via.refl e225 c227 (g := (mkF m 6 #[.val (.int p0), .unset] [(.int (0 : Int32)), (.ref b225), (.ref b225)])) rfl (hb hby d2_6)
  obtain ⟨cl229, Ar229, q229, S_229, N_229, H229, G229⟩ := V225
  have hin229 : ¬ ((0 : Int32) < 0 ∨ cl229.slots.size ≤ ((0 : Int32)).toNatClampNeg) := inb_of S_229 ⟨by decide, by decide⟩
  have c230 : Exa Z h225 v_WARRIOR "com/example/runehall/runehall/tavern/DwarfClass" := (Ev_WARRIOR.ext E225)
  obtain ⟨T231, h231, X231, e231, W231, st231⟩ := stR X228 hx hZ e228 Ar229 (j := (0 : Int32)) hin229 rfl (Sto.ofV Ar229 q229 O225 (Ins.self c230)) (g := (mkF m 9 #[.val (.int p0), .unset] [(.ref v_WARRIOR), (.int (0 : Int32)), (.ref b225), (.ref b225)])) rfl rfl (hb hby d2_9)
  have K232 : Keep h0 h231 [] := K226.wr W231 (Or.inr sz_b225)
  have c233 : Arv Z h231 b225 k225 (.object "com/example/runehall/runehall/tavern/DwarfClass") (5 : Int32) [(.ref v_WARRIOR), .null, .null, .null, .null] .null := Arv.set Ar229 q229 S_229 N_229 H229 G229 rfl W231 0 rfl (Nat.le_of_ble_eq_true rfl)
  have N234 := Fr.snoc X231 N0 ge_b225
  have c235 : Sta Z h231 "com/example/runehall/runehall/tavern/DwarfClass" "HUNTER" "Lcom/example/runehall/runehall/tavern/DwarfClass;" (.ref v_HUNTER) := ((Sv_HUNTER.ext E225).wr W231)
  obtain ⟨T236, X236, e236, st236⟩ := getS2 X231 hx hZ hown (host := "") (Or.inl (hw _ (List.mem_of_getElem? (i := 52) rfl))) Via.refl e231 c235 (g := (mkF m 12 #[.val (.int p0), .unset] [(.int (1 : Int32)), (.ref b225), (.ref b225)])) rfl (hb hby d2_12)
  obtain ⟨cl237, Ar237, q237, S_237, N_237, H237, G237⟩ := c233
  have hin237 : ¬ ((1 : Int32) < 0 ∨ cl237.slots.size ≤ ((1 : Int32)).toNatClampNeg) := inb_of S_237 ⟨by decide, by decide⟩
  have c238 : Exa Z h231 v_HUNTER "com/example/runehall/runehall/tavern/DwarfClass" := ((Ev_HUNTER.ext E225).wr W231)
  obtain ⟨T239, h239, X239, e239, W239, st239⟩ := stR X236 hx hZ e236 Ar237 (j := (1 : Int32)) hin237 rfl (Sto.ofV Ar237 q237 O225 (Ins.self c238)) (g := (mkF m 15 #[.val (.int p0), .unset] [(.ref v_HUNTER), (.int (1 : Int32)), (.ref b225), (.ref b225)])) rfl rfl (hb hby d2_15)
  have K240 : Keep h0 h239 [] := K232.wr W239 (Or.inr sz_b225)
  have c241 : Arv Z h239 b225 k225 (.object "com/example/runehall/runehall/tavern/DwarfClass") (5 : Int32) [(.ref v_WARRIOR), (.ref v_HUNTER), .null, .null, .null] .null := Arv.set Ar237 q237 S_237 N_237 H237 G237 rfl W239 1 rfl (Nat.le_of_ble_eq_true rfl)
  have N242 := Fr.snoc X239 N234 ge_b225
  have c243 : Sta Z h239 "com/example/runehall/runehall/tavern/DwarfClass" "MINER" "Lcom/example/runehall/runehall/tavern/DwarfClass;" (.ref v_MINER) := (((Sv_MINER.ext E225).wr W231).wr W239)
  obtain ⟨T244, X244, e244, st244⟩ := getS2 X239 hx hZ hown (host := "") (Or.inl (hw _ (List.mem_of_getElem? (i := 54) rfl))) Via.refl e239 c243 (g := (mkF m 18 #[.val (.int p0), .unset] [(.int (2 : Int32)), (.ref b225), (.ref b225)])) rfl (hb hby d2_18)
  obtain ⟨cl245, Ar245, q245, S_245, N_245, H245, G245⟩ := c241
  have hin245 : ¬ ((2 : Int32) < 0 ∨ cl245.slots.size ≤ ((2 : Int32)).toNatClampNeg) := inb_of S_245 ⟨by decide, by decide⟩
  have c246 : Exa Z h239 v_MINER "com/example/runehall/runehall/tavern/DwarfClass" := (((Ev_MINER.ext E225).wr W231).wr W239)
  obtain ⟨T247, h247, X247, e247, W247, st247⟩ := stR X244 hx hZ e244 Ar245 (j := (2 : Int32)) hin245 rfl (Sto.ofV Ar245 q245 O225 (Ins.self c246)) (g := (mkF m 21 #[.val (.int p0), .unset] [(.ref v_MINER), (.int (2 : Int32)), (.ref b225), (.ref b225)])) rfl rfl (hb hby d2_21)
  have K248 : Keep h0 h247 [] := K240.wr W247 (Or.inr sz_b225)
  have c249 : Arv Z h247 b225 k225 (.object "com/example/runehall/runehall/tavern/DwarfClass") (5 : Int32) [(.ref v_WARRIOR), (.ref v_HUNTER), (.ref v_MINER), .null, .null] .null := Arv.set Ar245 q245 S_245 N_245 H245 G245 rfl W247 2 rfl (Nat.le_of_ble_eq_true rfl)
  have N250 := Fr.snoc X247 N242 ge_b225
  have c251 : Sta Z h247 "com/example/runehall/runehall/tavern/DwarfClass" "BLACKSMITH" "Lcom/example/runehall/runehall/tavern/DwarfClass;" (.ref v_BLACKSMITH) := ((((Sv_BLACKSMITH.ext E225).wr W231).wr W239).wr W247)
  obtain ⟨T252, X252, e252, st252⟩ := getS2 X247 hx hZ hown (host := "") (Or.inl (hw _ (List.mem_of_getElem? (i := 56) rfl))) Via.refl e247 c251 (g := (mkF m 24 #[.val (.int p0), .unset] [(.int (3 : Int32)), (.ref b225), (.ref b225)])) rfl (hb hby d2_24)
  obtain ⟨cl253, Ar253, q253, S_253, N_253, H253, G253⟩ := c249
  have hin253 : ¬ ((3 : Int32) < 0 ∨ cl253.slots.size ≤ ((3 : Int32)).toNatClampNeg) := inb_of S_253 ⟨by decide, by decide⟩
  have c254 : Exa Z h247 v_BLACKSMITH "com/example/runehall/runehall/tavern/DwarfClass" := ((((Ev_BLACKSMITH.ext E225).wr W231).wr W239).wr W247)
  obtain ⟨T255, h255, X255, e255, W255, st255⟩ := stR X252 hx hZ e252 Ar253 (j := (3 : Int32)) hin253 rfl (Sto.ofV Ar253 q253 O225 (Ins.self c254)) (g := (mkF m 27 #[.val (.int p0), .unset] [(.ref v_BLACKSMITH), (.int (3 : Int32)), (.ref b225), (.ref b225)])) rfl rfl (hb hby d2_27)
  have K256 : Keep h0 h255 [] := K248.wr W255 (Or.inr sz_b225)
  have c257 : Arv Z h255 b225 k225 (.object "com/example/runehall/runehall/tavern/DwarfClass") (5 : Int32) [(.ref v_WARRIOR), (.ref v_HUNTER), (.ref v_MINER), (.ref v_BLACKSMITH), .null] .null := Arv.set Ar253 q253 S_253 N_253 H253 G253 rfl W255 3 rfl (Nat.le_of_ble_eq_true rfl)
  have N258 := Fr.snoc X255 N250 ge_b225
  have c259 : Sta Z h255 "com/example/runehall/runehall/tavern/DwarfClass" "EXPLORER" "Lcom/example/runehall/runehall/tavern/DwarfClass;" (.ref v_EXPLORER) := (((((Sv_EXPLORER.ext E225).wr W231).wr W239).wr W247).wr W255)
  obtain ⟨T260, X260, e260, st260⟩ := getS2 X255 hx hZ hown (host := "") (Or.inl (hw _ (List.mem_of_getElem? (i := 58) rfl))) Via.refl e255 c259 (g := (mkF m 30 #[.val (.int p0), .unset] [(.int (4 : Int32)), (.ref b225), (.ref b225)])) rfl (hb hby d2_30)
  obtain ⟨cl261, Ar261, q261, S_261, N_261, H261, G261⟩ := c257
  have hin261 : ¬ ((4 : Int32) < 0 ∨ cl261.slots.size ≤ ((4 : Int32)).toNatClampNeg) := inb_of S_261 ⟨by decide, by decide⟩
  have c262 : Exa Z h255 v_EXPLORER "com/example/runehall/runehall/tavern/DwarfClass" := (((((Ev_EXPLORER.ext E225).wr W231).wr W239).wr W247).wr W255)
  obtain ⟨T263, h263, X263, e263, W263, st263⟩ := stR X260 hx hZ e260 Ar261 (j := (4 : Int32)) hin261 rfl (Sto.ofV Ar261 q261 O225 (Ins.self c262)) (g := (mkF m 33 #[.val (.int p0), .unset] [(.ref v_EXPLORER), (.int (4 : Int32)), (.ref b225), (.ref b225)])) rfl rfl (hb hby d2_33)
  have K264 : Keep h0 h263 [] := K256.wr W263 (Or.inr sz_b225)
  have c265 : Arv Z h263 b225 k225 (.object "com/example/runehall/runehall/tavern/DwarfClass") (5 : Int32) [(.ref v_WARRIOR), (.ref v_HUNTER), (.ref v_MINER), (.ref v_BLACKSMITH), (.ref v_EXPLORER)] .null := Arv.set Ar261 q261 S_261 N_261 H261 G261 rfl W263 4 rfl (Nat.le_of_ble_eq_true rfl)
  have N266 := Fr.snoc X263 N258 ge_b225
  have S267 : ∀ t, Steps p.tables e below (T263.setTop (mkF m 37 #[.val (.int p0), .val (.ref b225)] [(.int p0), (.ref b225)])) t → Steps p.tables e below (s₁.setTop (entryFrame m #[(.int p0)] 2)) t := by
    intro t kt
    refine pre0 _ ?_
    show Steps p.tables e below (s₁.setTop (mkF m 0 #[.val (.int p0), .unset] [])) _
    refine XS.iconst X0.here hx rfl (hb hby d2_0) ?_
    show Steps p.tables e below (s₁.setTop (mkF m 1 #[.val (.int p0), .unset] [(.int (5 : Int32))])) _
    refine st225 _ ?_
    show Steps p.tables e below (T225.setTop (mkF m 4 #[.val (.int p0), .unset] [(.ref b225)])) _
    refine XS.dup X225.here hx rfl (hb hby d2_4) rfl rfl ?_
    show Steps p.tables e below (T225.setTop (mkF m 5 #[.val (.int p0), .unset] [(.ref b225), (.ref b225)])) _
    refine XS.iconst X225.here hx rfl (hb hby d2_5) ?_
    show Steps p.tables e below (T225.setTop (mkF m 6 #[.val (.int p0), .unset] [(.int (0 : Int32)), (.ref b225), (.ref b225)])) _
    refine st228 _ ?_
    show Steps p.tables e below (T228.setTop (mkF m 9 #[.val (.int p0), .unset] [(.ref v_WARRIOR), (.int (0 : Int32)), (.ref b225), (.ref b225)])) _
    refine st231 _ ?_
    show Steps p.tables e below (T231.setTop (mkF m 10 #[.val (.int p0), .unset] [(.ref b225)])) _
    refine XS.dup X231.here hx rfl (hb hby d2_10) rfl rfl ?_
    show Steps p.tables e below (T231.setTop (mkF m 11 #[.val (.int p0), .unset] [(.ref b225), (.ref b225)])) _
    refine XS.iconst X231.here hx rfl (hb hby d2_11) ?_
    show Steps p.tables e below (T231.setTop (mkF m 12 #[.val (.int p0), .unset] [(.int (1 : Int32)), (.ref b225), (.ref b225)])) _
    refine st236 _ ?_
    show Steps p.tables e below (T236.setTop (mkF m 15 #[.val (.int p0), .unset] [(.ref v_HUNTER), (.int (1 : Int32)), (.ref b225), (.ref b225)])) _
    refine st239 _ ?_
    show Steps p.tables e below (T239.setTop (mkF m 16 #[.val (.int p0), .unset] [(.ref b225)])) _
    refine XS.dup X239.here hx rfl (hb hby d2_16) rfl rfl ?_
    show Steps p.tables e below (T239.setTop (mkF m 17 #[.val (.int p0), .unset] [(.ref b225), (.ref b225)])) _
    refine XS.iconst X239.here hx rfl (hb hby d2_17) ?_
    show Steps p.tables e below (T239.setTop (mkF m 18 #[.val (.int p0), .unset] [(.int (2 : Int32)), (.ref b225), (.ref b225)])) _
    refine st244 _ ?_
    show Steps p.tables e below (T244.setTop (mkF m 21 #[.val (.int p0), .unset] [(.ref v_MINER), (.int (2 : Int32)), (.ref b225), (.ref b225)])) _
    refine st247 _ ?_
    show Steps p.tables e below (T247.setTop (mkF m 22 #[.val (.int p0), .unset] [(.ref b225)])) _
    refine XS.dup X247.here hx rfl (hb hby d2_22) rfl rfl ?_
    show Steps p.tables e below (T247.setTop (mkF m 23 #[.val (.int p0), .unset] [(.ref b225), (.ref b225)])) _
    refine XS.iconst X247.here hx rfl (hb hby d2_23) ?_
    show Steps p.tables e below (T247.setTop (mkF m 24 #[.val (.int p0), .unset] [(.int (3 : Int32)), (.ref b225), (.ref b225)])) _
    refine st252 _ ?_
    show Steps p.tables e below (T252.setTop (mkF m 27 #[.val (.int p0), .unset] [(.ref v_BLACKSMITH), (.int (3 : Int32)), (.ref b225), (.ref b225)])) _
    refine st255 _ ?_
    show Steps p.tables e below (T255.setTop (mkF m 28 #[.val (.int p0), .unset] [(.ref b225)])) _
    refine XS.dup X255.here hx rfl (hb hby d2_28) rfl rfl ?_
    show Steps p.tables e below (T255.setTop (mkF m 29 #[.val (.int p0), .unset] [(.ref b225), (.ref b225)])) _
    refine XS.iconst X255.here hx rfl (hb hby d2_29) ?_
    show Steps p.tables e below (T255.setTop (mkF m 30 #[.val (.int p0), .unset] [(.int (4 : Int32)), (.ref b225), (.ref b225)])) _
    refine st260 _ ?_
    show Steps p.tables e below (T260.setTop (mkF m 33 #[.val (.int p0), .unset] [(.ref v_EXPLORER), (.int (4 : Int32)), (.ref b225), (.ref b225)])) _
    refine st263 _ ?_
    show Steps p.tables e below (T263.setTop (mkF m 34 #[.val (.int p0), .unset] [(.ref b225)])) _
    refine XS.astoreN X263.here hx rfl (hb hby d2_34) rfl rfl (l' := #[.val (.int p0), .val (.ref b225)]) rfl ?_
    show Steps p.tables e below (T263.setTop (mkF m 35 #[.val (.int p0), .val (.ref b225)] [])) _
    refine XS.aloadN X263.here hx rfl (hb hby d2_35) rfl rfl ?_
    show Steps p.tables e below (T263.setTop (mkF m 36 #[.val (.int p0), .val (.ref b225)] [(.ref b225)])) _
    refine XS.iloadN X263.here hx rfl (hb hby d2_36) rfl ?_
    exact kt
  rcases own_or5 p0 hr with hq37_268 | hq37_269 | hq37_270 | hq37_271 | hq37_272
  · skip
    obtain ⟨cl273, Ar273, q273, S_273, N_273, H273, G273⟩ := c265
    have hin273 : ¬ (p0 < 0 ∨ cl273.slots.size ≤ (p0).toNatClampNeg) := inb_of S_273 ⟨by rw [hq37_268]; decide, by rw [hq37_268]; decide⟩
    have hat273 : cl273.slots[(p0).toNatClampNeg]? = some (.ref v_WARRIOR) := Has.at H273 hin273 (by rw [hq37_268]; rfl)
    obtain ⟨fs, hrT, hrunT, hendT, hWT, hsameT⟩ := X263.leave (v := some (.ref v_WARRIOR)) (fun h => by rw [Bd.returns] at h; cases h)
    refine ⟨_, _, S267 _ ?_, hrunT, hendT, _, _, rfl, ?_, ⟨_, rfl⟩, hWT, hsameT.mono (by decide) (by decide)⟩
    · show Steps p.tables e below (T263.setTop (mkF m 37 #[.val (.int p0), .val (.ref b225)] [(.int p0), (.ref b225)])) _
      refine X263.aaload hx (j := p0) (v := (.ref v_WARRIOR)) (by rw [e263]; exact Ar273.1) (State.isArrayOf_alike hZ.alike Ar273.2.1) rfl Ar273.2.2 hin273 hat273 (g := (mkF m 37 #[.val (.int p0), .val (.ref b225)] [(.int p0), (.ref b225)])) rfl rfl (hb hby d2_37) _ ?_
      show Steps p.tables e below (T263.setTop (mkF m 38 #[.val (.int p0), .val (.ref b225)] [(.ref v_WARRIOR)])) _
      exact retOut X263 hx Bd.returns rfl (by right; right; right; right; exact ⟨rfl, rfl, rfl⟩) (hb hby d2_38) hrT
    · show Q2 Z p0 v_WARRIOR v_HUNTER v_MINER v_BLACKSMITH v_EXPLORER h0 n0 _ T263.heap _
      rw [e263]
      have hv : f_col p0 v_WARRIOR v_HUNTER v_MINER v_BLACKSMITH v_EXPLORER = v_WARRIOR := by unfold f_col; rw [if_pos hq37_268]
      exact ⟨(congrArg (fun z => some (Value.ref z)) hv.symm), N266, K264⟩
  · skip
    have hq37_269_0 : ¬ p0 = (0 : Int32) := by rw [hq37_269]; decide
    obtain ⟨cl274, Ar274, q274, S_274, N_274, H274, G274⟩ := c265
    have hin274 : ¬ (p0 < 0 ∨ cl274.slots.size ≤ (p0).toNatClampNeg) := inb_of S_274 ⟨by rw [hq37_269]; decide, by rw [hq37_269]; decide⟩
    have hat274 : cl274.slots[(p0).toNatClampNeg]? = some (.ref v_HUNTER) := Has.at H274 hin274 (by rw [hq37_269]; rfl)
    obtain ⟨fs, hrT, hrunT, hendT, hWT, hsameT⟩ := X263.leave (v := some (.ref v_HUNTER)) (fun h => by rw [Bd.returns] at h; cases h)
    refine ⟨_, _, S267 _ ?_, hrunT, hendT, _, _, rfl, ?_, ⟨_, rfl⟩, hWT, hsameT.mono (by decide) (by decide)⟩
    · show Steps p.tables e below (T263.setTop (mkF m 37 #[.val (.int p0), .val (.ref b225)] [(.int p0), (.ref b225)])) _
      refine X263.aaload hx (j := p0) (v := (.ref v_HUNTER)) (by rw [e263]; exact Ar274.1) (State.isArrayOf_alike hZ.alike Ar274.2.1) rfl Ar274.2.2 hin274 hat274 (g := (mkF m 37 #[.val (.int p0), .val (.ref b225)] [(.int p0), (.ref b225)])) rfl rfl (hb hby d2_37) _ ?_
      show Steps p.tables e below (T263.setTop (mkF m 38 #[.val (.int p0), .val (.ref b225)] [(.ref v_HUNTER)])) _
      exact retOut X263 hx Bd.returns rfl (by right; right; right; right; exact ⟨rfl, rfl, rfl⟩) (hb hby d2_38) hrT
    · show Q2 Z p0 v_WARRIOR v_HUNTER v_MINER v_BLACKSMITH v_EXPLORER h0 n0 _ T263.heap _
      rw [e263]
      have hv : f_col p0 v_WARRIOR v_HUNTER v_MINER v_BLACKSMITH v_EXPLORER = v_HUNTER := by unfold f_col; rw [if_neg hq37_269_0]; rw [if_pos hq37_269]
      exact ⟨(congrArg (fun z => some (Value.ref z)) hv.symm), N266, K264⟩
  · skip
    have hq37_270_0 : ¬ p0 = (0 : Int32) := by rw [hq37_270]; decide
    have hq37_270_1 : ¬ p0 = (1 : Int32) := by rw [hq37_270]; decide
    obtain ⟨cl275, Ar275, q275, S_275, N_275, H275, G275⟩ := c265
    have hin275 : ¬ (p0 < 0 ∨ cl275.slots.size ≤ (p0).toNatClampNeg) := inb_of S_275 ⟨by rw [hq37_270]; decide, by rw [hq37_270]; decide⟩
    have hat275 : cl275.slots[(p0).toNatClampNeg]? = some (.ref v_MINER) := Has.at H275 hin275 (by rw [hq37_270]; rfl)
    obtain ⟨fs, hrT, hrunT, hendT, hWT, hsameT⟩ := X263.leave (v := some (.ref v_MINER)) (fun h => by rw [Bd.returns] at h; cases h)
    refine ⟨_, _, S267 _ ?_, hrunT, hendT, _, _, rfl, ?_, ⟨_, rfl⟩, hWT, hsameT.mono (by decide) (by decide)⟩
    · show Steps p.tables e below (T263.setTop (mkF m 37 #[.val (.int p0), .val (.ref b225)] [(.int p0), (.ref b225)])) _
      refine X263.aaload hx (j := p0) (v := (.ref v_MINER)) (by rw [e263]; exact Ar275.1) (State.isArrayOf_alike hZ.alike Ar275.2.1) rfl Ar275.2.2 hin275 hat275 (g := (mkF m 37 #[.val (.int p0), .val (.ref b225)] [(.int p0), (.ref b225)])) rfl rfl (hb hby d2_37) _ ?_
      show Steps p.tables e below (T263.setTop (mkF m 38 #[.val (.int p0), .val (.ref b225)] [(.ref v_MINER)])) _
      exact retOut X263 hx Bd.returns rfl (by right; right; right; right; exact ⟨rfl, rfl, rfl⟩) (hb hby d2_38) hrT
    · show Q2 Z p0 v_WARRIOR v_HUNTER v_MINER v_BLACKSMITH v_EXPLORER h0 n0 _ T263.heap _
      rw [e263]
      have hv : f_col p0 v_WARRIOR v_HUNTER v_MINER v_BLACKSMITH v_EXPLORER = v_MINER := by unfold f_col; rw [if_neg hq37_270_0]; rw [if_neg hq37_270_1]; rw [if_pos hq37_270]
      exact ⟨(congrArg (fun z => some (Value.ref z)) hv.symm), N266, K264⟩
  · skip
    have hq37_271_0 : ¬ p0 = (0 : Int32) := by rw [hq37_271]; decide
    have hq37_271_1 : ¬ p0 = (1 : Int32) := by rw [hq37_271]; decide
    have hq37_271_2 : ¬ p0 = (2 : Int32) := by rw [hq37_271]; decide
    obtain ⟨cl276, Ar276, q276, S_276, N_276, H276, G276⟩ := c265
    have hin276 : ¬ (p0 < 0 ∨ cl276.slots.size ≤ (p0).toNatClampNeg) := inb_of S_276 ⟨by rw [hq37_271]; decide, by rw [hq37_271]; decide⟩
    have hat276 : cl276.slots[(p0).toNatClampNeg]? = some (.ref v_BLACKSMITH) := Has.at H276 hin276 (by rw [hq37_271]; rfl)
    obtain ⟨fs, hrT, hrunT, hendT, hWT, hsameT⟩ := X263.leave (v := some (.ref v_BLACKSMITH)) (fun h => by rw [Bd.returns] at h; cases h)
    refine ⟨_, _, S267 _ ?_, hrunT, hendT, _, _, rfl, ?_, ⟨_, rfl⟩, hWT, hsameT.mono (by decide) (by decide)⟩
    · show Steps p.tables e below (T263.setTop (mkF m 37 #[.val (.int p0), .val (.ref b225)] [(.int p0), (.ref b225)])) _
      refine X263.aaload hx (j := p0) (v := (.ref v_BLACKSMITH)) (by rw [e263]; exact Ar276.1) (State.isArrayOf_alike hZ.alike Ar276.2.1) rfl Ar276.2.2 hin276 hat276 (g := (mkF m 37 #[.val (.int p0), .val (.ref b225)] [(.int p0), (.ref b225)])) rfl rfl (hb hby d2_37) _ ?_
      show Steps p.tables e below (T263.setTop (mkF m 38 #[.val (.int p0), .val (.ref b225)] [(.ref v_BLACKSMITH)])) _
      exact retOut X263 hx Bd.returns rfl (by right; right; right; right; exact ⟨rfl, rfl, rfl⟩) (hb hby d2_38) hrT
    · show Q2 Z p0 v_WARRIOR v_HUNTER v_MINER v_BLACKSMITH v_EXPLORER h0 n0 _ T263.heap _
      rw [e263]
      have hv : f_col p0 v_WARRIOR v_HUNTER v_MINER v_BLACKSMITH v_EXPLORER = v_BLACKSMITH := by unfold f_col; rw [if_neg hq37_271_0]; rw [if_neg hq37_271_1]; rw [if_neg hq37_271_2]; rw [if_pos hq37_271]
      exact ⟨(congrArg (fun z => some (Value.ref z)) hv.symm), N266, K264⟩
  · skip
    have hq37_272_0 : ¬ p0 = (0 : Int32) := by rw [hq37_272]; decide
    have hq37_272_1 : ¬ p0 = (1 : Int32) := by rw [hq37_272]; decide
    have hq37_272_2 : ¬ p0 = (2 : Int32) := by rw [hq37_272]; decide
    have hq37_272_3 : ¬ p0 = (3 : Int32) := by rw [hq37_272]; decide
    obtain ⟨cl277, Ar277, q277, S_277, N_277, H277, G277⟩ := c265
    have hin277 : ¬ (p0 < 0 ∨ cl277.slots.size ≤ (p0).toNatClampNeg) := inb_of S_277 ⟨by rw [hq37_272]; decide, by rw [hq37_272]; decide⟩
    have hat277 : cl277.slots[(p0).toNatClampNeg]? = some (.ref v_EXPLORER) := Has.at H277 hin277 (by rw [hq37_272]; rfl)
    obtain ⟨fs, hrT, hrunT, hendT, hWT, hsameT⟩ := X263.leave (v := some (.ref v_EXPLORER)) (fun h => by rw [Bd.returns] at h; cases h)
    refine ⟨_, _, S267 _ ?_, hrunT, hendT, _, _, rfl, ?_, ⟨_, rfl⟩, hWT, hsameT.mono (by decide) (by decide)⟩
    · show Steps p.tables e below (T263.setTop (mkF m 37 #[.val (.int p0), .val (.ref b225)] [(.int p0), (.ref b225)])) _
      refine X263.aaload hx (j := p0) (v := (.ref v_EXPLORER)) (by rw [e263]; exact Ar277.1) (State.isArrayOf_alike hZ.alike Ar277.2.1) rfl Ar277.2.2 hin277 hat277 (g := (mkF m 37 #[.val (.int p0), .val (.ref b225)] [(.int p0), (.ref b225)])) rfl rfl (hb hby d2_37) _ ?_
      show Steps p.tables e below (T263.setTop (mkF m 38 #[.val (.int p0), .val (.ref b225)] [(.ref v_EXPLORER)])) _
      exact retOut X263 hx Bd.returns rfl (by right; right; right; right; exact ⟨rfl, rfl, rfl⟩) (hb hby d2_38) hrT
    · show Q2 Z p0 v_WARRIOR v_HUNTER v_MINER v_BLACKSMITH v_EXPLORER h0 n0 _ T263.heap _
      rw [e263]
      have hv : f_col p0 v_WARRIOR v_HUNTER v_MINER v_BLACKSMITH v_EXPLORER = v_EXPLORER := by unfold f_col; rw [if_neg hq37_272_0]; rw [if_neg hq37_272_1]; rw [if_neg hq37_272_2]; rw [if_neg hq37_272_3]
      exact ⟨(congrArg (fun z => some (Value.ref z)) hv.symm), N266, K264⟩
theorem d3_0 : decode prog_17_method_10_code 0 = .ok (.aload_n 0, 1) := by decide +kernel
theorem d3_1 : decode prog_17_method_10_code 1 = .ok (.getstatic 34, 3) := by decide +kernel
theorem d3_4 : decode prog_17_method_10_code 4 = .ok (.if_acmp .eq 11, 3) := by decide +kernel
theorem d3_15 : decode prog_17_method_10_code 15 = .ok (.iconst 1, 1) := by decide +kernel
theorem d3_16 : decode prog_17_method_10_code 16 = .ok (.goto 4, 3) := by decide +kernel
theorem d3_20 : decode prog_17_method_10_code 20 = .ok (.ireturn, 1) := by decide +kernel
theorem d3_7 : decode prog_17_method_10_code 7 = .ok (.aload_n 1, 1) := by decide +kernel
theorem d3_8 : decode prog_17_method_10_code 8 = .ok (.aload_n 0, 1) := by decide +kernel
theorem d3_9 : decode prog_17_method_10_code 9 = .ok (.getfield 78, 3) := by decide +kernel
theorem d3_12 : decode prog_17_method_10_code 12 = .ok (.if_acmp .ne 7, 3) := by decide +kernel
theorem d3_19 : decode prog_17_method_10_code 19 = .ok (.iconst 0, 1) := by decide +kernel
theorem pn_Hero : plainName "com/example/runehall/runehall/tavern/Hero" = true := by first | (simp [plainName, overriddenIn]; done) | decide +kernel
def f_may (r0 : Addr) (r1 : Addr) (v_UNPREDICTABLE : Addr) (dc : Value) : Int32 := (if r0 = v_UNPREDICTABLE then (1 : Int32) else (if ((.ref r1) : Value) = dc then (1 : Int32) else (0 : Int32)))
theorem ef3 (m : MethodId) (x0 : Addr) (x1 : Addr) : entryFrame m #[(.ref x0), (.ref x1)] 2 = mkF m 0 #[.val (.ref x0), .val (.ref x1)] [] := by first | (simp [entryFrame, mkF, argsToLocals, Value.category]; done) | rfl
def Q3 (Z : State) (r0 : Addr) (r1 : Addr) (v_UNPREDICTABLE : Addr) (dc : Value) (h0 : Heap) (n0 : Nat) (v : Option Value) (h : Heap) (L : List Loc) : Prop := v = some (.int (f_may r0 r1 v_UNPREDICTABLE dc)) ∧ Fr n0 L ∧ h = h0
set_option maxRecDepth 65536 in
set_option maxHeartbeats 40000000 in
theorem rm3 (l : Launch) (Z : State) (a0 : Array Value) (hw : ∀ d ∈ tables_1, d.before a0 Z = true) (ws : List Jvm.Cond) (r0 : Addr) (r1 : Addr) (v_UNPREDICTABLE : Addr) (dc : Value) (h0 : Heap) (n0 : Nat) (Z0 : n0 ≤ h0.size) (Sv_UNPREDICTABLE : Sta Z h0 "com/example/runehall/runehall/tavern/Hero" "UNPREDICTABLE" "Lcom/example/runehall/runehall/tavern/Hero;" (.ref v_UNPREDICTABLE)) (F1 : Fld Z h0 r0 "com/example/runehall/runehall/tavern/Hero" "dwarfClass" "Lcom/example/runehall/runehall/tavern/DwarfClass;" dc) (hdc : dc.isRef = true) :
    MetFree l (⟨"com/example/runehall/runehall/tavern/Hero", "mayEndIn", "(Lcom/example/runehall/runehall/tavern/DwarfClass;)Z"⟩ : MethodName) (head1 (Jvm.Cond.code (⟨"com/example/runehall/runehall/tavern/Hero", "mayEndIn", "(Lcom/example/runehall/runehall/tavern/DwarfClass;)Z"⟩ : MethodName) prog_17_method_10_code 2 (some .boolean) :: ws) ({ frames := 0, cells := 0, slots := 0, locals := 0 } : Room)) (fun a U => a = #[(.ref r0), (.ref r1)] ∧ Z.Warmed39 U.vm ∧ U.heap = h0) (fun _ _ _ _ _ => True) (fun _ U o U' => ∃ v L, o = .returned v ∧ Q3 Z r0 r1 v_UNPREDICTABLE dc h0 n0 v U'.heap L ∧ FrameEnd U o U' L ({ frames := 0, cells := 0, slots := 0, locals := 0 } : Room).cells ({ frames := 0, cells := 0, slots := 0, locals := 0 } : Room).slots) := by
  refine MetFree.of_bodySF (plainFor_of_name pn_Hero) hisR ?_
  intro p e s m args below meth c s₁ Bd hml0 hP hK
  obtain ⟨rfl, hZ, hh⟩ := hP
  have hx := Bd.exec
  have hby := Bd.bytes
  have hml : c.maxLocals = 2 := hml0
  have hown : s.vm.findClass "com/example/runehall/runehall/tavern/Hero" = some m.cls := findClass_of_methodNamed Bd.named
  have hnm := (name_of_methodNamed Bd.named Bd.method).1
  have X0 : Stand p l e ({ frames := 0, cells := 0, slots := 0, locals := 0 } : Room) s m #[(.ref r0), (.ref r1)] below meth c s₁ [] 0 0 := Stand.of_body Bd
  have e0 : s₁.heap = h0 := by rw [← hh, Bd.state]; rfl
  have N0 := Fr.nil n0
  have pre0 : ∀ t, Steps p.tables e below (s₁.setTop (mkF m 0 #[.val (.ref r0), .val (.ref r1)] [])) t → Steps p.tables e below (s₁.setTop (entryFrame m #[(.ref r0), (.ref r1)] 2)) t := fun t k => castTop (ef3 m r0 r1) k
  obtain ⟨T278, X278, e278, st278⟩ := getS2 X0 hx hZ hown (host := "") (Or.inl (hw _ (List.mem_of_getElem? (i := 65) rfl))) Via.refl e0 Sv_UNPREDICTABLE (g := (mkF m 1 #[.val (.ref r0), .val (.ref r1)] [(.ref r0)])) rfl (hb hby d3_1)
  have S279 : ∀ t, Steps p.tables e below (T278.setTop (mkF m 4 #[.val (.ref r0), .val (.ref r1)] [(.ref v_UNPREDICTABLE), (.ref r0)])) t → Steps p.tables e below (s₁.setTop (entryFrame m #[(.ref r0), (.ref r1)] 2)) t := by
    intro t kt
    refine pre0 _ ?_
    show Steps p.tables e below (s₁.setTop (mkF m 0 #[.val (.ref r0), .val (.ref r1)] [])) _
    refine XS.aloadN X0.here hx rfl (hb hby d3_0) rfl rfl ?_
    show Steps p.tables e below (s₁.setTop (mkF m 1 #[.val (.ref r0), .val (.ref r1)] [(.ref r0)])) _
    refine st278 _ ?_
    exact kt
  by_cases hc4_280 : r0 = v_UNPREDICTABLE
  case pos =>
    obtain ⟨fs, hrT, hrunT, hendT, hWT, hsameT⟩ := X278.leave (v := some (.int (1 : Int32))) (fun h => by rw [Bd.returns] at h; cases h)
    refine ⟨_, _, S279 _ ?_, hrunT, hendT, _, _, rfl, ?_, ⟨_, rfl⟩, hWT, hsameT.mono (by decide) (by decide)⟩
    · show Steps p.tables e below (T278.setTop (mkF m 4 #[.val (.ref r0), .val (.ref r1)] [(.ref v_UNPREDICTABLE), (.ref r0)])) _
      refine XT.acmpYes X278.here hx rfl (pc0 := 4) (pc' := 15) rfl (hb hby d3_4) rfl rfl rfl (XT.aa_eq_t (congrArg Value.ref hc4_280)) (by decide) (by decide) ?_
      show Steps p.tables e below (T278.setTop (mkF m 15 #[.val (.ref r0), .val (.ref r1)] [])) _
      refine XS.iconst X278.here hx rfl (hb hby d3_15) ?_
      show Steps p.tables e below (T278.setTop (mkF m 16 #[.val (.ref r0), .val (.ref r1)] [(.int (1 : Int32))])) _
      refine XS.goto X278.here hx rfl (pc0 := 16) (pc' := 20) rfl (hb hby d3_16) (by decide) (by decide) ?_
      show Steps p.tables e below (T278.setTop (mkF m 20 #[.val (.ref r0), .val (.ref r1)] [(.int (1 : Int32))])) _
      exact retN X278 hx (t := .boolean) Bd.returns (by simp) (hb hby d3_20) hrT
    · show Q3 Z r0 r1 v_UNPREDICTABLE dc h0 n0 _ T278.heap _
      rw [e278]
      have hv : f_may r0 r1 v_UNPREDICTABLE dc = (1 : Int32) := by unfold f_may; rw [if_pos hc4_280]
      exact ⟨(congrArg (fun z => some (Value.int z)) hv.symm), N0, rfl⟩
  case neg =>
    obtain ⟨T281, X281, e281, st281⟩ := getF X278 hx hZ hown (host := "") (Or.inl (hw _ (List.mem_of_getElem? (i := 66) rfl))) Via.refl e278 F1 (g := (mkF m 9 #[.val (.ref r0), .val (.ref r1)] [(.ref r0), (.ref r1)])) rfl rfl (hb hby d3_9)
    have S282 : ∀ t, Steps p.tables e below (T281.setTop (mkF m 12 #[.val (.ref r0), .val (.ref r1)] [dc, (.ref r1)])) t → Steps p.tables e below (s₁.setTop (entryFrame m #[(.ref r0), (.ref r1)] 2)) t := by
      intro t kt
      refine S279 _ ?_
      show Steps p.tables e below (T278.setTop (mkF m 4 #[.val (.ref r0), .val (.ref r1)] [(.ref v_UNPREDICTABLE), (.ref r0)])) _
      refine XT.acmpNo X278.here hx rfl (hb hby d3_4) rfl rfl rfl (XT.aa_eq_f (fun q => hc4_280 (Value.ref.inj q))) ?_
      show Steps p.tables e below (T278.setTop (mkF m 7 #[.val (.ref r0), .val (.ref r1)] [])) _
      refine XS.aloadN X278.here hx rfl (hb hby d3_7) rfl rfl ?_
      show Steps p.tables e below (T278.setTop (mkF m 8 #[.val (.ref r0), .val (.ref r1)] [(.ref r1)])) _
      refine XS.aloadN X278.here hx rfl (hb hby d3_8) rfl rfl ?_
      show Steps p.tables e below (T278.setTop (mkF m 9 #[.val (.ref r0), .val (.ref r1)] [(.ref r0), (.ref r1)])) _
      refine st281 _ ?_
      exact kt
    by_cases hc12_283 : ((.ref r1) : Value) = dc
    case pos =>
      obtain ⟨fs, hrT, hrunT, hendT, hWT, hsameT⟩ := X281.leave (v := some (.int (1 : Int32))) (fun h => by rw [Bd.returns] at h; cases h)
      refine ⟨_, _, S282 _ ?_, hrunT, hendT, _, _, rfl, ?_, ⟨_, rfl⟩, hWT, hsameT.mono (by decide) (by decide)⟩
      · show Steps p.tables e below (T281.setTop (mkF m 12 #[.val (.ref r0), .val (.ref r1)] [dc, (.ref r1)])) _
        refine XT.acmpNo X281.here hx rfl (hb hby d3_12) rfl rfl hdc (XT.aa_ne_f hc12_283) ?_
        show Steps p.tables e below (T281.setTop (mkF m 15 #[.val (.ref r0), .val (.ref r1)] [])) _
        refine XS.iconst X281.here hx rfl (hb hby d3_15) ?_
        show Steps p.tables e below (T281.setTop (mkF m 16 #[.val (.ref r0), .val (.ref r1)] [(.int (1 : Int32))])) _
        refine XS.goto X281.here hx rfl (pc0 := 16) (pc' := 20) rfl (hb hby d3_16) (by decide) (by decide) ?_
        show Steps p.tables e below (T281.setTop (mkF m 20 #[.val (.ref r0), .val (.ref r1)] [(.int (1 : Int32))])) _
        exact retN X281 hx (t := .boolean) Bd.returns (by simp) (hb hby d3_20) hrT
      · show Q3 Z r0 r1 v_UNPREDICTABLE dc h0 n0 _ T281.heap _
        rw [e281]
        have hv : f_may r0 r1 v_UNPREDICTABLE dc = (1 : Int32) := by unfold f_may; rw [if_neg hc4_280]; rw [if_pos hc12_283]
        exact ⟨(congrArg (fun z => some (Value.int z)) hv.symm), N0, rfl⟩
    case neg =>
      obtain ⟨fs, hrT, hrunT, hendT, hWT, hsameT⟩ := X281.leave (v := some (.int (0 : Int32))) (fun h => by rw [Bd.returns] at h; cases h)
      refine ⟨_, _, S282 _ ?_, hrunT, hendT, _, _, rfl, ?_, ⟨_, rfl⟩, hWT, hsameT.mono (by decide) (by decide)⟩
      · show Steps p.tables e below (T281.setTop (mkF m 12 #[.val (.ref r0), .val (.ref r1)] [dc, (.ref r1)])) _
        refine XT.acmpYes X281.here hx rfl (pc0 := 12) (pc' := 19) rfl (hb hby d3_12) rfl rfl hdc (XT.aa_ne_t hc12_283) (by decide) (by decide) ?_
        show Steps p.tables e below (T281.setTop (mkF m 19 #[.val (.ref r0), .val (.ref r1)] [])) _
        refine XS.iconst X281.here hx rfl (hb hby d3_19) ?_
        show Steps p.tables e below (T281.setTop (mkF m 20 #[.val (.ref r0), .val (.ref r1)] [(.int (0 : Int32))])) _
        exact retN X281 hx (t := .boolean) Bd.returns (by simp) (hb hby d3_20) hrT
      · show Q3 Z r0 r1 v_UNPREDICTABLE dc h0 n0 _ T281.heap _
        rw [e281]
        have hv : f_may r0 r1 v_UNPREDICTABLE dc = (0 : Int32) := by unfold f_may; rw [if_neg hc4_280]; rw [if_neg hc12_283]
        exact ⟨(congrArg (fun z => some (Value.int z)) hv.symm), N0, rfl⟩
theorem d4_0 : decode method_4_code 0 = .ok (.iload_n 0, 1) := by decide +kernel
theorem d4_1 : decode method_4_code 1 = .ok (.bipush 10, 2) := by decide +kernel
theorem d4_3 : decode method_4_code 3 = .ok (.if_icmp .ne 5, 3) := by decide +kernel
theorem d4_6 : decode method_4_code 6 = .ok (.iconst 1, 1) := by decide +kernel
theorem d4_7 : decode method_4_code 7 = .ok (.ireturn, 1) := by decide +kernel
theorem d4_8 : decode method_4_code 8 = .ok (.iload_n 0, 1) := by decide +kernel
theorem d4_9 : decode method_4_code 9 = .ok (.bipush 11, 2) := by decide +kernel
theorem d4_11 : decode method_4_code 11 = .ok (.if_icmp .lt 5, 3) := by decide +kernel
theorem d4_16 : decode method_4_code 16 = .ok (.iload_n 0, 1) := by decide +kernel
theorem d4_17 : decode method_4_code 17 = .ok (.iconst 2, 1) := by decide +kernel
theorem d4_18 : decode method_4_code 18 = .ok (.if_icmp .ge 8, 3) := by decide +kernel
theorem d4_21 : decode method_4_code 21 = .ok (.iconst 0, 1) := by decide +kernel
theorem d4_22 : decode method_4_code 22 = .ok (.istore_n 2, 1) := by decide +kernel
theorem d4_23 : decode method_4_code 23 = .ok (.goto 37, 3) := by decide +kernel
theorem d4_60 : decode method_4_code 60 = .ok (.iload_n 1, 1) := by decide +kernel
theorem d4_61 : decode method_4_code 61 = .ok (.iload_n 2, 1) := by decide +kernel
theorem d4_62 : decode method_4_code 62 = .ok (.if_icmp .ne 7, 3) := by decide +kernel
theorem d4_65 : decode method_4_code 65 = .ok (.iconst 1, 1) := by decide +kernel
theorem d4_66 : decode method_4_code 66 = .ok (.goto 4, 3) := by decide +kernel
theorem d4_70 : decode method_4_code 70 = .ok (.ireturn, 1) := by decide +kernel
theorem d4_69 : decode method_4_code 69 = .ok (.iconst 0, 1) := by decide +kernel
theorem d4_26 : decode method_4_code 26 = .ok (.iload_n 0, 1) := by decide +kernel
theorem d4_27 : decode method_4_code 27 = .ok (.iconst 4, 1) := by decide +kernel
theorem d4_28 : decode method_4_code 28 = .ok (.if_icmp .ge 8, 3) := by decide +kernel
theorem d4_31 : decode method_4_code 31 = .ok (.iconst 1, 1) := by decide +kernel
theorem d4_32 : decode method_4_code 32 = .ok (.istore_n 2, 1) := by decide +kernel
theorem d4_33 : decode method_4_code 33 = .ok (.goto 27, 3) := by decide +kernel
theorem d4_36 : decode method_4_code 36 = .ok (.iload_n 0, 1) := by decide +kernel
theorem d4_37 : decode method_4_code 37 = .ok (.bipush 6, 2) := by decide +kernel
theorem d4_39 : decode method_4_code 39 = .ok (.if_icmp .ge 8, 3) := by decide +kernel
theorem d4_42 : decode method_4_code 42 = .ok (.iconst 3, 1) := by decide +kernel
theorem d4_43 : decode method_4_code 43 = .ok (.istore_n 2, 1) := by decide +kernel
theorem d4_44 : decode method_4_code 44 = .ok (.goto 16, 3) := by decide +kernel
theorem d4_47 : decode method_4_code 47 = .ok (.iload_n 0, 1) := by decide +kernel
theorem d4_48 : decode method_4_code 48 = .ok (.bipush 8, 2) := by decide +kernel
theorem d4_50 : decode method_4_code 50 = .ok (.if_icmp .ge 8, 3) := by decide +kernel
theorem d4_53 : decode method_4_code 53 = .ok (.iconst 2, 1) := by decide +kernel
theorem d4_54 : decode method_4_code 54 = .ok (.istore_n 2, 1) := by decide +kernel
theorem d4_55 : decode method_4_code 55 = .ok (.goto 5, 3) := by decide +kernel
theorem d4_58 : decode method_4_code 58 = .ok (.iconst 4, 1) := by decide +kernel
theorem d4_59 : decode method_4_code 59 = .ok (.istore_n 2, 1) := by decide +kernel
theorem d4_14 : decode method_4_code 14 = .ok (.iconst 0, 1) := by decide +kernel
theorem d4_15 : decode method_4_code 15 = .ok (.ireturn, 1) := by decide +kernel
def f_exp (p0 : Int32) (p1 : Int32) : Int32 := (if p0 = (10 : Int32) then (1 : Int32) else (if p0 < (11 : Int32) then (if p0 < (2 : Int32) then (if p1 = (0 : Int32) then (1 : Int32) else (0 : Int32)) else (if p0 < (4 : Int32) then (if p1 = (1 : Int32) then (1 : Int32) else (0 : Int32)) else (if p0 < (6 : Int32) then (if p1 = (3 : Int32) then (1 : Int32) else (0 : Int32)) else (if p0 < (8 : Int32) then (if p1 = (2 : Int32) then (1 : Int32) else (0 : Int32)) else (if p1 = (4 : Int32) then (1 : Int32) else (0 : Int32)))))) else (0 : Int32)))
theorem ef4 (m : MethodId) (x0 : Int32) (x1 : Int32) : entryFrame m #[(.int x0), (.int x1)] 3 = mkF m 0 #[.val (.int x0), .val (.int x1), .unset] [] := by first | (simp [entryFrame, mkF, argsToLocals, Value.category]; done) | rfl
def Q4 (Z : State) (p0 : Int32) (p1 : Int32) (h0 : Heap) (n0 : Nat) (v : Option Value) (h : Heap) (L : List Loc) : Prop := v = some (.int (f_exp p0 p1)) ∧ Fr n0 L ∧ h = h0
set_option maxRecDepth 65536 in
set_option maxHeartbeats 40000000 in
theorem rm4 (l : Launch) (Z : State) (a0 : Array Value) (hw : ∀ d ∈ tables_1, d.before a0 Z = true) (ws : List Jvm.Cond) (p0 : Int32) (p1 : Int32) (h0 : Heap) (n0 : Nat) (Z0 : n0 ≤ h0.size) :
    MetFree l (⟨"com/example/runehall/runehall/tavern/HeroMayEndInPinLaw", "expected", "(II)Z"⟩ : MethodName) (head1 (Jvm.Cond.code (⟨"com/example/runehall/runehall/tavern/HeroMayEndInPinLaw", "expected", "(II)Z"⟩ : MethodName) method_4_code 3 (some .boolean) :: ws) ({ frames := 0, cells := 0, slots := 0, locals := 0 } : Room)) (fun a U => a = #[(.int p0), (.int p1)] ∧ Z.Warmed39 U.vm ∧ U.heap = h0) (fun _ _ _ _ _ => True) (fun _ U o U' => ∃ v L, o = .returned v ∧ Q4 Z p0 p1 h0 n0 v U'.heap L ∧ FrameEnd U o U' L ({ frames := 0, cells := 0, slots := 0, locals := 0 } : Room).cells ({ frames := 0, cells := 0, slots := 0, locals := 0 } : Room).slots) := by
  refine MetFree.of_bodySF (plainFor_of_name pn_HeroMayEndInPinLaw) hisR ?_
  intro p e s m args below meth c s₁ Bd hml0 hP hK
  obtain ⟨rfl, hZ, hh⟩ := hP
  have hx := Bd.exec
  have hby := Bd.bytes
  have hml : c.maxLocals = 3 := hml0
  have hown : s.vm.findClass "com/example/runehall/runehall/tavern/HeroMayEndInPinLaw" = some m.cls := findClass_of_methodNamed Bd.named
  have hnm := (name_of_methodNamed Bd.named Bd.method).1
  have X0 : Stand p l e ({ frames := 0, cells := 0, slots := 0, locals := 0 } : Room) s m #[(.int p0), (.int p1)] below meth c s₁ [] 0 0 := Stand.of_body Bd
  have e0 : s₁.heap = h0 := by rw [← hh, Bd.state]; rfl
  have N0 := Fr.nil n0
  have pre0 : ∀ t, Steps p.tables e below (s₁.setTop (mkF m 0 #[.val (.int p0), .val (.int p1), .unset] [])) t → Steps p.tables e below (s₁.setTop (entryFrame m #[(.int p0), (.int p1)] 3)) t := fun t k => castTop (ef4 m p0 p1) k
  have S284 : ∀ t, Steps p.tables e below (s₁.setTop (mkF m 3 #[.val (.int p0), .val (.int p1), .unset] [(.int (10 : Int32)), (.int p0)])) t → Steps p.tables e below (s₁.setTop (entryFrame m #[(.int p0), (.int p1)] 3)) t := by
    intro t kt
    refine pre0 _ ?_
    show Steps p.tables e below (s₁.setTop (mkF m 0 #[.val (.int p0), .val (.int p1), .unset] [])) _
    refine XS.iloadN X0.here hx rfl (hb hby d4_0) rfl ?_
    show Steps p.tables e below (s₁.setTop (mkF m 1 #[.val (.int p0), .val (.int p1), .unset] [(.int p0)])) _
    refine XS.bipush X0.here hx rfl (hb hby d4_1) ?_
    exact kt
  by_cases hc3_285 : p0 = (10 : Int32)
  case pos =>
    obtain ⟨fs, hrT, hrunT, hendT, hWT, hsameT⟩ := X0.leave (v := some (.int (1 : Int32))) (fun h => by rw [Bd.returns] at h; cases h)
    refine ⟨_, _, S284 _ ?_, hrunT, hendT, _, _, rfl, ?_, ⟨_, rfl⟩, hWT, hsameT.mono (by decide) (by decide)⟩
    · show Steps p.tables e below (s₁.setTop (mkF m 3 #[.val (.int p0), .val (.int p1), .unset] [(.int (10 : Int32)), (.int p0)])) _
      refine XS.icmpNo X0.here hx rfl (hb hby d4_3) rfl (XT.ii_ne_f hc3_285) ?_
      show Steps p.tables e below (s₁.setTop (mkF m 6 #[.val (.int p0), .val (.int p1), .unset] [])) _
      refine XS.iconst X0.here hx rfl (hb hby d4_6) ?_
      show Steps p.tables e below (s₁.setTop (mkF m 7 #[.val (.int p0), .val (.int p1), .unset] [(.int (1 : Int32))])) _
      exact retN X0 hx (t := .boolean) Bd.returns (by simp) (hb hby d4_7) hrT
    · show Q4 Z p0 p1 h0 n0 _ s₁.heap _
      rw [e0]
      have hv : f_exp p0 p1 = (1 : Int32) := by unfold f_exp; rw [if_pos hc3_285]
      exact ⟨(congrArg (fun z => some (Value.int z)) hv.symm), N0, rfl⟩
  case neg =>
    have S286 : ∀ t, Steps p.tables e below (s₁.setTop (mkF m 11 #[.val (.int p0), .val (.int p1), .unset] [(.int (11 : Int32)), (.int p0)])) t → Steps p.tables e below (s₁.setTop (entryFrame m #[(.int p0), (.int p1)] 3)) t := by
      intro t kt
      refine S284 _ ?_
      show Steps p.tables e below (s₁.setTop (mkF m 3 #[.val (.int p0), .val (.int p1), .unset] [(.int (10 : Int32)), (.int p0)])) _
      refine XS.icmpYes X0.here hx rfl (pc0 := 3) (pc' := 8) rfl (hb hby d4_3) rfl (XT.ii_ne_t hc3_285) (by decide) (by decide) ?_
      show Steps p.tables e below (s₁.setTop (mkF m 8 #[.val (.int p0), .val (.int p1), .unset] [])) _
      refine XS.iloadN X0.here hx rfl (hb hby d4_8) rfl ?_
      show Steps p.tables e below (s₁.setTop (mkF m 9 #[.val (.int p0), .val (.int p1), .unset] [(.int p0)])) _
      refine XS.bipush X0.here hx rfl (hb hby d4_9) ?_
      exact kt
    by_cases hc11_287 : p0 < (11 : Int32)
    case pos =>
      have S288 : ∀ t, Steps p.tables e below (s₁.setTop (mkF m 18 #[.val (.int p0), .val (.int p1), .unset] [(.int (2 : Int32)), (.int p0)])) t → Steps p.tables e below (s₁.setTop (entryFrame m #[(.int p0), (.int p1)] 3)) t := by
        intro t kt
        refine S286 _ ?_
        show Steps p.tables e below (s₁.setTop (mkF m 11 #[.val (.int p0), .val (.int p1), .unset] [(.int (11 : Int32)), (.int p0)])) _
        refine XS.icmpYes X0.here hx rfl (pc0 := 11) (pc' := 16) rfl (hb hby d4_11) rfl (XT.ii_lt_t hc11_287) (by decide) (by decide) ?_
        show Steps p.tables e below (s₁.setTop (mkF m 16 #[.val (.int p0), .val (.int p1), .unset] [])) _
        refine XS.iloadN X0.here hx rfl (hb hby d4_16) rfl ?_
        show Steps p.tables e below (s₁.setTop (mkF m 17 #[.val (.int p0), .val (.int p1), .unset] [(.int p0)])) _
        refine XS.iconst X0.here hx rfl (hb hby d4_17) ?_
        exact kt
      by_cases hc18_289 : p0 < (2 : Int32)
      case pos =>
        have S290 : ∀ t, Steps p.tables e below (s₁.setTop (mkF m 62 #[.val (.int p0), .val (.int p1), .val (.int (0 : Int32))] [(.int (0 : Int32)), (.int p1)])) t → Steps p.tables e below (s₁.setTop (entryFrame m #[(.int p0), (.int p1)] 3)) t := by
          intro t kt
          refine S288 _ ?_
          show Steps p.tables e below (s₁.setTop (mkF m 18 #[.val (.int p0), .val (.int p1), .unset] [(.int (2 : Int32)), (.int p0)])) _
          refine XS.icmpNo X0.here hx rfl (hb hby d4_18) rfl (XT.ii_ge_f hc18_289) ?_
          show Steps p.tables e below (s₁.setTop (mkF m 21 #[.val (.int p0), .val (.int p1), .unset] [])) _
          refine XS.iconst X0.here hx rfl (hb hby d4_21) ?_
          show Steps p.tables e below (s₁.setTop (mkF m 22 #[.val (.int p0), .val (.int p1), .unset] [(.int (0 : Int32))])) _
          refine XS.istoreN X0.here hx rfl (hb hby d4_22) rfl (l' := #[.val (.int p0), .val (.int p1), .val (.int (0 : Int32))]) rfl ?_
          show Steps p.tables e below (s₁.setTop (mkF m 23 #[.val (.int p0), .val (.int p1), .val (.int (0 : Int32))] [])) _
          refine XS.goto X0.here hx rfl (pc0 := 23) (pc' := 60) rfl (hb hby d4_23) (by decide) (by decide) ?_
          show Steps p.tables e below (s₁.setTop (mkF m 60 #[.val (.int p0), .val (.int p1), .val (.int (0 : Int32))] [])) _
          refine XS.iloadN X0.here hx rfl (hb hby d4_60) rfl ?_
          show Steps p.tables e below (s₁.setTop (mkF m 61 #[.val (.int p0), .val (.int p1), .val (.int (0 : Int32))] [(.int p1)])) _
          refine XS.iloadN X0.here hx rfl (hb hby d4_61) rfl ?_
          exact kt
        by_cases hc62_291 : p1 = (0 : Int32)
        case pos =>
          obtain ⟨fs, hrT, hrunT, hendT, hWT, hsameT⟩ := X0.leave (v := some (.int (1 : Int32))) (fun h => by rw [Bd.returns] at h; cases h)
          refine ⟨_, _, S290 _ ?_, hrunT, hendT, _, _, rfl, ?_, ⟨_, rfl⟩, hWT, hsameT.mono (by decide) (by decide)⟩
          · show Steps p.tables e below (s₁.setTop (mkF m 62 #[.val (.int p0), .val (.int p1), .val (.int (0 : Int32))] [(.int (0 : Int32)), (.int p1)])) _
            refine XS.icmpNo X0.here hx rfl (hb hby d4_62) rfl (XT.ii_ne_f hc62_291) ?_
            show Steps p.tables e below (s₁.setTop (mkF m 65 #[.val (.int p0), .val (.int p1), .val (.int (0 : Int32))] [])) _
            refine XS.iconst X0.here hx rfl (hb hby d4_65) ?_
            show Steps p.tables e below (s₁.setTop (mkF m 66 #[.val (.int p0), .val (.int p1), .val (.int (0 : Int32))] [(.int (1 : Int32))])) _
            refine XS.goto X0.here hx rfl (pc0 := 66) (pc' := 70) rfl (hb hby d4_66) (by decide) (by decide) ?_
            show Steps p.tables e below (s₁.setTop (mkF m 70 #[.val (.int p0), .val (.int p1), .val (.int (0 : Int32))] [(.int (1 : Int32))])) _
            exact retN X0 hx (t := .boolean) Bd.returns (by simp) (hb hby d4_70) hrT
          · show Q4 Z p0 p1 h0 n0 _ s₁.heap _
            rw [e0]
            have hv : f_exp p0 p1 = (1 : Int32) := by unfold f_exp; rw [if_neg hc3_285]; rw [if_pos hc11_287]; rw [if_pos hc18_289]; rw [if_pos hc62_291]
            exact ⟨(congrArg (fun z => some (Value.int z)) hv.symm), N0, rfl⟩
        case neg =>
          obtain ⟨fs, hrT, hrunT, hendT, hWT, hsameT⟩ := X0.leave (v := some (.int (0 : Int32))) (fun h => by rw [Bd.returns] at h; cases h)
          refine ⟨_, _, S290 _ ?_, hrunT, hendT, _, _, rfl, ?_, ⟨_, rfl⟩, hWT, hsameT.mono (by decide) (by decide)⟩
          · show Steps p.tables e below (s₁.setTop (mkF m 62 #[.val (.int p0), .val (.int p1), .val (.int (0 : Int32))] [(.int (0 : Int32)), (.int p1)])) _
            refine XS.icmpYes X0.here hx rfl (pc0 := 62) (pc' := 69) rfl (hb hby d4_62) rfl (XT.ii_ne_t hc62_291) (by decide) (by decide) ?_
            show Steps p.tables e below (s₁.setTop (mkF m 69 #[.val (.int p0), .val (.int p1), .val (.int (0 : Int32))] [])) _
            refine XS.iconst X0.here hx rfl (hb hby d4_69) ?_
            show Steps p.tables e below (s₁.setTop (mkF m 70 #[.val (.int p0), .val (.int p1), .val (.int (0 : Int32))] [(.int (0 : Int32))])) _
            exact retN X0 hx (t := .boolean) Bd.returns (by simp) (hb hby d4_70) hrT
          · show Q4 Z p0 p1 h0 n0 _ s₁.heap _
            rw [e0]
            have hv : f_exp p0 p1 = (0 : Int32) := by unfold f_exp; rw [if_neg hc3_285]; rw [if_pos hc11_287]; rw [if_pos hc18_289]; rw [if_neg hc62_291]
            exact ⟨(congrArg (fun z => some (Value.int z)) hv.symm), N0, rfl⟩
      case neg =>
        have S292 : ∀ t, Steps p.tables e below (s₁.setTop (mkF m 28 #[.val (.int p0), .val (.int p1), .unset] [(.int (4 : Int32)), (.int p0)])) t → Steps p.tables e below (s₁.setTop (entryFrame m #[(.int p0), (.int p1)] 3)) t := by
          intro t kt
          refine S288 _ ?_
          show Steps p.tables e below (s₁.setTop (mkF m 18 #[.val (.int p0), .val (.int p1), .unset] [(.int (2 : Int32)), (.int p0)])) _
          refine XS.icmpYes X0.here hx rfl (pc0 := 18) (pc' := 26) rfl (hb hby d4_18) rfl (XT.ii_ge_t hc18_289) (by decide) (by decide) ?_
          show Steps p.tables e below (s₁.setTop (mkF m 26 #[.val (.int p0), .val (.int p1), .unset] [])) _
          refine XS.iloadN X0.here hx rfl (hb hby d4_26) rfl ?_
          show Steps p.tables e below (s₁.setTop (mkF m 27 #[.val (.int p0), .val (.int p1), .unset] [(.int p0)])) _
          refine XS.iconst X0.here hx rfl (hb hby d4_27) ?_
          exact kt
        by_cases hc28_293 : p0 < (4 : Int32)
        case pos =>
          have S294 : ∀ t, Steps p.tables e below (s₁.setTop (mkF m 62 #[.val (.int p0), .val (.int p1), .val (.int (1 : Int32))] [(.int (1 : Int32)), (.int p1)])) t → Steps p.tables e below (s₁.setTop (entryFrame m #[(.int p0), (.int p1)] 3)) t := by
            intro t kt
            refine S292 _ ?_
            show Steps p.tables e below (s₁.setTop (mkF m 28 #[.val (.int p0), .val (.int p1), .unset] [(.int (4 : Int32)), (.int p0)])) _
            refine XS.icmpNo X0.here hx rfl (hb hby d4_28) rfl (XT.ii_ge_f hc28_293) ?_
            show Steps p.tables e below (s₁.setTop (mkF m 31 #[.val (.int p0), .val (.int p1), .unset] [])) _
            refine XS.iconst X0.here hx rfl (hb hby d4_31) ?_
            show Steps p.tables e below (s₁.setTop (mkF m 32 #[.val (.int p0), .val (.int p1), .unset] [(.int (1 : Int32))])) _
            refine XS.istoreN X0.here hx rfl (hb hby d4_32) rfl (l' := #[.val (.int p0), .val (.int p1), .val (.int (1 : Int32))]) rfl ?_
            show Steps p.tables e below (s₁.setTop (mkF m 33 #[.val (.int p0), .val (.int p1), .val (.int (1 : Int32))] [])) _
            refine XS.goto X0.here hx rfl (pc0 := 33) (pc' := 60) rfl (hb hby d4_33) (by decide) (by decide) ?_
            show Steps p.tables e below (s₁.setTop (mkF m 60 #[.val (.int p0), .val (.int p1), .val (.int (1 : Int32))] [])) _
            refine XS.iloadN X0.here hx rfl (hb hby d4_60) rfl ?_
            show Steps p.tables e below (s₁.setTop (mkF m 61 #[.val (.int p0), .val (.int p1), .val (.int (1 : Int32))] [(.int p1)])) _
            refine XS.iloadN X0.here hx rfl (hb hby d4_61) rfl ?_
            exact kt
          by_cases hc62_295 : p1 = (1 : Int32)
          case pos =>
            obtain ⟨fs, hrT, hrunT, hendT, hWT, hsameT⟩ := X0.leave (v := some (.int (1 : Int32))) (fun h => by rw [Bd.returns] at h; cases h)
            refine ⟨_, _, S294 _ ?_, hrunT, hendT, _, _, rfl, ?_, ⟨_, rfl⟩, hWT, hsameT.mono (by decide) (by decide)⟩
            · show Steps p.tables e below (s₁.setTop (mkF m 62 #[.val (.int p0), .val (.int p1), .val (.int (1 : Int32))] [(.int (1 : Int32)), (.int p1)])) _
              refine XS.icmpNo X0.here hx rfl (hb hby d4_62) rfl (XT.ii_ne_f hc62_295) ?_
              show Steps p.tables e below (s₁.setTop (mkF m 65 #[.val (.int p0), .val (.int p1), .val (.int (1 : Int32))] [])) _
              refine XS.iconst X0.here hx rfl (hb hby d4_65) ?_
              show Steps p.tables e below (s₁.setTop (mkF m 66 #[.val (.int p0), .val (.int p1), .val (.int (1 : Int32))] [(.int (1 : Int32))])) _
              refine XS.goto X0.here hx rfl (pc0 := 66) (pc' := 70) rfl (hb hby d4_66) (by decide) (by decide) ?_
              show Steps p.tables e below (s₁.setTop (mkF m 70 #[.val (.int p0), .val (.int p1), .val (.int (1 : Int32))] [(.int (1 : Int32))])) _
              exact retN X0 hx (t := .boolean) Bd.returns (by simp) (hb hby d4_70) hrT
            · show Q4 Z p0 p1 h0 n0 _ s₁.heap _
              rw [e0]
              have hv : f_exp p0 p1 = (1 : Int32) := by unfold f_exp; rw [if_neg hc3_285]; rw [if_pos hc11_287]; rw [if_neg hc18_289]; rw [if_pos hc28_293]; rw [if_pos hc62_295]
              exact ⟨(congrArg (fun z => some (Value.int z)) hv.symm), N0, rfl⟩
          case neg =>
            obtain ⟨fs, hrT, hrunT, hendT, hWT, hsameT⟩ := X0.leave (v := some (.int (0 : Int32))) (fun h => by rw [Bd.returns] at h; cases h)
            refine ⟨_, _, S294 _ ?_, hrunT, hendT, _, _, rfl, ?_, ⟨_, rfl⟩, hWT, hsameT.mono (by decide) (by decide)⟩
            · show Steps p.tables e below (s₁.setTop (mkF m 62 #[.val (.int p0), .val (.int p1), .val (.int (1 : Int32))] [(.int (1 : Int32)), (.int p1)])) _
              refine XS.icmpYes X0.here hx rfl (pc0 := 62) (pc' := 69) rfl (hb hby d4_62) rfl (XT.ii_ne_t hc62_295) (by decide) (by decide) ?_
              show Steps p.tables e below (s₁.setTop (mkF m 69 #[.val (.int p0), .val (.int p1), .val (.int (1 : Int32))] [])) _
              refine XS.iconst X0.here hx rfl (hb hby d4_69) ?_
              show Steps p.tables e below (s₁.setTop (mkF m 70 #[.val (.int p0), .val (.int p1), .val (.int (1 : Int32))] [(.int (0 : Int32))])) _
              exact retN X0 hx (t := .boolean) Bd.returns (by simp) (hb hby d4_70) hrT
            · show Q4 Z p0 p1 h0 n0 _ s₁.heap _
              rw [e0]
              have hv : f_exp p0 p1 = (0 : Int32) := by unfold f_exp; rw [if_neg hc3_285]; rw [if_pos hc11_287]; rw [if_neg hc18_289]; rw [if_pos hc28_293]; rw [if_neg hc62_295]
              exact ⟨(congrArg (fun z => some (Value.int z)) hv.symm), N0, rfl⟩
        case neg =>
          have S296 : ∀ t, Steps p.tables e below (s₁.setTop (mkF m 39 #[.val (.int p0), .val (.int p1), .unset] [(.int (6 : Int32)), (.int p0)])) t → Steps p.tables e below (s₁.setTop (entryFrame m #[(.int p0), (.int p1)] 3)) t := by
            intro t kt
            refine S292 _ ?_
            show Steps p.tables e below (s₁.setTop (mkF m 28 #[.val (.int p0), .val (.int p1), .unset] [(.int (4 : Int32)), (.int p0)])) _
            refine XS.icmpYes X0.here hx rfl (pc0 := 28) (pc' := 36) rfl (hb hby d4_28) rfl (XT.ii_ge_t hc28_293) (by decide) (by decide) ?_
            show Steps p.tables e below (s₁.setTop (mkF m 36 #[.val (.int p0), .val (.int p1), .unset] [])) _
            refine XS.iloadN X0.here hx rfl (hb hby d4_36) rfl ?_
            show Steps p.tables e below (s₁.setTop (mkF m 37 #[.val (.int p0), .val (.int p1), .unset] [(.int p0)])) _
            refine XS.bipush X0.here hx rfl (hb hby d4_37) ?_
            exact kt
          by_cases hc39_297 : p0 < (6 : Int32)
          case pos =>
            have S298 : ∀ t, Steps p.tables e below (s₁.setTop (mkF m 62 #[.val (.int p0), .val (.int p1), .val (.int (3 : Int32))] [(.int (3 : Int32)), (.int p1)])) t → Steps p.tables e below (s₁.setTop (entryFrame m #[(.int p0), (.int p1)] 3)) t := by
              intro t kt
              refine S296 _ ?_
              show Steps p.tables e below (s₁.setTop (mkF m 39 #[.val (.int p0), .val (.int p1), .unset] [(.int (6 : Int32)), (.int p0)])) _
              refine XS.icmpNo X0.here hx rfl (hb hby d4_39) rfl (XT.ii_ge_f hc39_297) ?_
              show Steps p.tables e below (s₁.setTop (mkF m 42 #[.val (.int p0), .val (.int p1), .unset] [])) _
              refine XS.iconst X0.here hx rfl (hb hby d4_42) ?_
              show Steps p.tables e below (s₁.setTop (mkF m 43 #[.val (.int p0), .val (.int p1), .unset] [(.int (3 : Int32))])) _
              refine XS.istoreN X0.here hx rfl (hb hby d4_43) rfl (l' := #[.val (.int p0), .val (.int p1), .val (.int (3 : Int32))]) rfl ?_
              show Steps p.tables e below (s₁.setTop (mkF m 44 #[.val (.int p0), .val (.int p1), .val (.int (3 : Int32))] [])) _
              refine XS.goto X0.here hx rfl (pc0 := 44) (pc' := 60) rfl (hb hby d4_44) (by decide) (by decide) ?_
              show Steps p.tables e below (s₁.setTop (mkF m 60 #[.val (.int p0), .val (.int p1), .val (.int (3 : Int32))] [])) _
              refine XS.iloadN X0.here hx rfl (hb hby d4_60) rfl ?_
              show Steps p.tables e below (s₁.setTop (mkF m 61 #[.val (.int p0), .val (.int p1), .val (.int (3 : Int32))] [(.int p1)])) _
              refine XS.iloadN X0.here hx rfl (hb hby d4_61) rfl ?_
              exact kt
            by_cases hc62_299 : p1 = (3 : Int32)
            case pos =>
              obtain ⟨fs, hrT, hrunT, hendT, hWT, hsameT⟩ := X0.leave (v := some (.int (1 : Int32))) (fun h => by rw [Bd.returns] at h; cases h)
              refine ⟨_, _, S298 _ ?_, hrunT, hendT, _, _, rfl, ?_, ⟨_, rfl⟩, hWT, hsameT.mono (by decide) (by decide)⟩
              · show Steps p.tables e below (s₁.setTop (mkF m 62 #[.val (.int p0), .val (.int p1), .val (.int (3 : Int32))] [(.int (3 : Int32)), (.int p1)])) _
                refine XS.icmpNo X0.here hx rfl (hb hby d4_62) rfl (XT.ii_ne_f hc62_299) ?_
                show Steps p.tables e below (s₁.setTop (mkF m 65 #[.val (.int p0), .val (.int p1), .val (.int (3 : Int32))] [])) _
                refine XS.iconst X0.here hx rfl (hb hby d4_65) ?_
                show Steps p.tables e below (s₁.setTop (mkF m 66 #[.val (.int p0), .val (.int p1), .val (.int (3 : Int32))] [(.int (1 : Int32))])) _
                refine XS.goto X0.here hx rfl (pc0 := 66) (pc' := 70) rfl (hb hby d4_66) (by decide) (by decide) ?_
                show Steps p.tables e below (s₁.setTop (mkF m 70 #[.val (.int p0), .val (.int p1), .val (.int (3 : Int32))] [(.int (1 : Int32))])) _
                exact retN X0 hx (t := .boolean) Bd.returns (by simp) (hb hby d4_70) hrT
              · show Q4 Z p0 p1 h0 n0 _ s₁.heap _
                rw [e0]
                have hv : f_exp p0 p1 = (1 : Int32) := by unfold f_exp; rw [if_neg hc3_285]; rw [if_pos hc11_287]; rw [if_neg hc18_289]; rw [if_neg hc28_293]; rw [if_pos hc39_297]; rw [if_pos hc62_299]
                exact ⟨(congrArg (fun z => some (Value.int z)) hv.symm), N0, rfl⟩
            case neg =>
              obtain ⟨fs, hrT, hrunT, hendT, hWT, hsameT⟩ := X0.leave (v := some (.int (0 : Int32))) (fun h => by rw [Bd.returns] at h; cases h)
              refine ⟨_, _, S298 _ ?_, hrunT, hendT, _, _, rfl, ?_, ⟨_, rfl⟩, hWT, hsameT.mono (by decide) (by decide)⟩
              · show Steps p.tables e below (s₁.setTop (mkF m 62 #[.val (.int p0), .val (.int p1), .val (.int (3 : Int32))] [(.int (3 : Int32)), (.int p1)])) _
                refine XS.icmpYes X0.here hx rfl (pc0 := 62) (pc' := 69) rfl (hb hby d4_62) rfl (XT.ii_ne_t hc62_299) (by decide) (by decide) ?_
                show Steps p.tables e below (s₁.setTop (mkF m 69 #[.val (.int p0), .val (.int p1), .val (.int (3 : Int32))] [])) _
                refine XS.iconst X0.here hx rfl (hb hby d4_69) ?_
                show Steps p.tables e below (s₁.setTop (mkF m 70 #[.val (.int p0), .val (.int p1), .val (.int (3 : Int32))] [(.int (0 : Int32))])) _
                exact retN X0 hx (t := .boolean) Bd.returns (by simp) (hb hby d4_70) hrT
              · show Q4 Z p0 p1 h0 n0 _ s₁.heap _
                rw [e0]
                have hv : f_exp p0 p1 = (0 : Int32) := by unfold f_exp; rw [if_neg hc3_285]; rw [if_pos hc11_287]; rw [if_neg hc18_289]; rw [if_neg hc28_293]; rw [if_pos hc39_297]; rw [if_neg hc62_299]
                exact ⟨(congrArg (fun z => some (Value.int z)) hv.symm), N0, rfl⟩
          case neg =>
            have S300 : ∀ t, Steps p.tables e below (s₁.setTop (mkF m 50 #[.val (.int p0), .val (.int p1), .unset] [(.int (8 : Int32)), (.int p0)])) t → Steps p.tables e below (s₁.setTop (entryFrame m #[(.int p0), (.int p1)] 3)) t := by
              intro t kt
              refine S296 _ ?_
              show Steps p.tables e below (s₁.setTop (mkF m 39 #[.val (.int p0), .val (.int p1), .unset] [(.int (6 : Int32)), (.int p0)])) _
              refine XS.icmpYes X0.here hx rfl (pc0 := 39) (pc' := 47) rfl (hb hby d4_39) rfl (XT.ii_ge_t hc39_297) (by decide) (by decide) ?_
              show Steps p.tables e below (s₁.setTop (mkF m 47 #[.val (.int p0), .val (.int p1), .unset] [])) _
              refine XS.iloadN X0.here hx rfl (hb hby d4_47) rfl ?_
              show Steps p.tables e below (s₁.setTop (mkF m 48 #[.val (.int p0), .val (.int p1), .unset] [(.int p0)])) _
              refine XS.bipush X0.here hx rfl (hb hby d4_48) ?_
              exact kt
            by_cases hc50_301 : p0 < (8 : Int32)
            case pos =>
              have S302 : ∀ t, Steps p.tables e below (s₁.setTop (mkF m 62 #[.val (.int p0), .val (.int p1), .val (.int (2 : Int32))] [(.int (2 : Int32)), (.int p1)])) t → Steps p.tables e below (s₁.setTop (entryFrame m #[(.int p0), (.int p1)] 3)) t := by
                intro t kt
                refine S300 _ ?_
                show Steps p.tables e below (s₁.setTop (mkF m 50 #[.val (.int p0), .val (.int p1), .unset] [(.int (8 : Int32)), (.int p0)])) _
                refine XS.icmpNo X0.here hx rfl (hb hby d4_50) rfl (XT.ii_ge_f hc50_301) ?_
                show Steps p.tables e below (s₁.setTop (mkF m 53 #[.val (.int p0), .val (.int p1), .unset] [])) _
                refine XS.iconst X0.here hx rfl (hb hby d4_53) ?_
                show Steps p.tables e below (s₁.setTop (mkF m 54 #[.val (.int p0), .val (.int p1), .unset] [(.int (2 : Int32))])) _
                refine XS.istoreN X0.here hx rfl (hb hby d4_54) rfl (l' := #[.val (.int p0), .val (.int p1), .val (.int (2 : Int32))]) rfl ?_
                show Steps p.tables e below (s₁.setTop (mkF m 55 #[.val (.int p0), .val (.int p1), .val (.int (2 : Int32))] [])) _
                refine XS.goto X0.here hx rfl (pc0 := 55) (pc' := 60) rfl (hb hby d4_55) (by decide) (by decide) ?_
                show Steps p.tables e below (s₁.setTop (mkF m 60 #[.val (.int p0), .val (.int p1), .val (.int (2 : Int32))] [])) _
                refine XS.iloadN X0.here hx rfl (hb hby d4_60) rfl ?_
                show Steps p.tables e below (s₁.setTop (mkF m 61 #[.val (.int p0), .val (.int p1), .val (.int (2 : Int32))] [(.int p1)])) _
                refine XS.iloadN X0.here hx rfl (hb hby d4_61) rfl ?_
                exact kt
              by_cases hc62_303 : p1 = (2 : Int32)
              case pos =>
                obtain ⟨fs, hrT, hrunT, hendT, hWT, hsameT⟩ := X0.leave (v := some (.int (1 : Int32))) (fun h => by rw [Bd.returns] at h; cases h)
                refine ⟨_, _, S302 _ ?_, hrunT, hendT, _, _, rfl, ?_, ⟨_, rfl⟩, hWT, hsameT.mono (by decide) (by decide)⟩
                · show Steps p.tables e below (s₁.setTop (mkF m 62 #[.val (.int p0), .val (.int p1), .val (.int (2 : Int32))] [(.int (2 : Int32)), (.int p1)])) _
                  refine XS.icmpNo X0.here hx rfl (hb hby d4_62) rfl (XT.ii_ne_f hc62_303) ?_
                  show Steps p.tables e below (s₁.setTop (mkF m 65 #[.val (.int p0), .val (.int p1), .val (.int (2 : Int32))] [])) _
                  refine XS.iconst X0.here hx rfl (hb hby d4_65) ?_
                  show Steps p.tables e below (s₁.setTop (mkF m 66 #[.val (.int p0), .val (.int p1), .val (.int (2 : Int32))] [(.int (1 : Int32))])) _
                  refine XS.goto X0.here hx rfl (pc0 := 66) (pc' := 70) rfl (hb hby d4_66) (by decide) (by decide) ?_
                  show Steps p.tables e below (s₁.setTop (mkF m 70 #[.val (.int p0), .val (.int p1), .val (.int (2 : Int32))] [(.int (1 : Int32))])) _
                  exact retN X0 hx (t := .boolean) Bd.returns (by simp) (hb hby d4_70) hrT
                · show Q4 Z p0 p1 h0 n0 _ s₁.heap _
                  rw [e0]
                  have hv : f_exp p0 p1 = (1 : Int32) := by unfold f_exp; rw [if_neg hc3_285]; rw [if_pos hc11_287]; rw [if_neg hc18_289]; rw [if_neg hc28_293]; rw [if_neg hc39_297]; rw [if_pos hc50_301]; rw [if_pos hc62_303]
                  exact ⟨(congrArg (fun z => some (Value.int z)) hv.symm), N0, rfl⟩
              case neg =>
                obtain ⟨fs, hrT, hrunT, hendT, hWT, hsameT⟩ := X0.leave (v := some (.int (0 : Int32))) (fun h => by rw [Bd.returns] at h; cases h)
                refine ⟨_, _, S302 _ ?_, hrunT, hendT, _, _, rfl, ?_, ⟨_, rfl⟩, hWT, hsameT.mono (by decide) (by decide)⟩
                · show Steps p.tables e below (s₁.setTop (mkF m 62 #[.val (.int p0), .val (.int p1), .val (.int (2 : Int32))] [(.int (2 : Int32)), (.int p1)])) _
                  refine XS.icmpYes X0.here hx rfl (pc0 := 62) (pc' := 69) rfl (hb hby d4_62) rfl (XT.ii_ne_t hc62_303) (by decide) (by decide) ?_
                  show Steps p.tables e below (s₁.setTop (mkF m 69 #[.val (.int p0), .val (.int p1), .val (.int (2 : Int32))] [])) _
                  refine XS.iconst X0.here hx rfl (hb hby d4_69) ?_
                  show Steps p.tables e below (s₁.setTop (mkF m 70 #[.val (.int p0), .val (.int p1), .val (.int (2 : Int32))] [(.int (0 : Int32))])) _
                  exact retN X0 hx (t := .boolean) Bd.returns (by simp) (hb hby d4_70) hrT
                · show Q4 Z p0 p1 h0 n0 _ s₁.heap _
                  rw [e0]
                  have hv : f_exp p0 p1 = (0 : Int32) := by unfold f_exp; rw [if_neg hc3_285]; rw [if_pos hc11_287]; rw [if_neg hc18_289]; rw [if_neg hc28_293]; rw [if_neg hc39_297]; rw [if_pos hc50_301]; rw [if_neg hc62_303]
                  exact ⟨(congrArg (fun z => some (Value.int z)) hv.symm), N0, rfl⟩
            case neg =>
              have S304 : ∀ t, Steps p.tables e below (s₁.setTop (mkF m 62 #[.val (.int p0), .val (.int p1), .val (.int (4 : Int32))] [(.int (4 : Int32)), (.int p1)])) t → Steps p.tables e below (s₁.setTop (entryFrame m #[(.int p0), (.int p1)] 3)) t := by
                intro t kt
                refine S300 _ ?_
                show Steps p.tables e below (s₁.setTop (mkF m 50 #[.val (.int p0), .val (.int p1), .unset] [(.int (8 : Int32)), (.int p0)])) _
                refine XS.icmpYes X0.here hx rfl (pc0 := 50) (pc' := 58) rfl (hb hby d4_50) rfl (XT.ii_ge_t hc50_301) (by decide) (by decide) ?_
                show Steps p.tables e below (s₁.setTop (mkF m 58 #[.val (.int p0), .val (.int p1), .unset] [])) _
                refine XS.iconst X0.here hx rfl (hb hby d4_58) ?_
                show Steps p.tables e below (s₁.setTop (mkF m 59 #[.val (.int p0), .val (.int p1), .unset] [(.int (4 : Int32))])) _
                refine XS.istoreN X0.here hx rfl (hb hby d4_59) rfl (l' := #[.val (.int p0), .val (.int p1), .val (.int (4 : Int32))]) rfl ?_
                show Steps p.tables e below (s₁.setTop (mkF m 60 #[.val (.int p0), .val (.int p1), .val (.int (4 : Int32))] [])) _
                refine XS.iloadN X0.here hx rfl (hb hby d4_60) rfl ?_
                show Steps p.tables e below (s₁.setTop (mkF m 61 #[.val (.int p0), .val (.int p1), .val (.int (4 : Int32))] [(.int p1)])) _
                refine XS.iloadN X0.here hx rfl (hb hby d4_61) rfl ?_
                exact kt
              by_cases hc62_305 : p1 = (4 : Int32)
              case pos =>
                obtain ⟨fs, hrT, hrunT, hendT, hWT, hsameT⟩ := X0.leave (v := some (.int (1 : Int32))) (fun h => by rw [Bd.returns] at h; cases h)
                refine ⟨_, _, S304 _ ?_, hrunT, hendT, _, _, rfl, ?_, ⟨_, rfl⟩, hWT, hsameT.mono (by decide) (by decide)⟩
                · show Steps p.tables e below (s₁.setTop (mkF m 62 #[.val (.int p0), .val (.int p1), .val (.int (4 : Int32))] [(.int (4 : Int32)), (.int p1)])) _
                  refine XS.icmpNo X0.here hx rfl (hb hby d4_62) rfl (XT.ii_ne_f hc62_305) ?_
                  show Steps p.tables e below (s₁.setTop (mkF m 65 #[.val (.int p0), .val (.int p1), .val (.int (4 : Int32))] [])) _
                  refine XS.iconst X0.here hx rfl (hb hby d4_65) ?_
                  show Steps p.tables e below (s₁.setTop (mkF m 66 #[.val (.int p0), .val (.int p1), .val (.int (4 : Int32))] [(.int (1 : Int32))])) _
                  refine XS.goto X0.here hx rfl (pc0 := 66) (pc' := 70) rfl (hb hby d4_66) (by decide) (by decide) ?_
                  show Steps p.tables e below (s₁.setTop (mkF m 70 #[.val (.int p0), .val (.int p1), .val (.int (4 : Int32))] [(.int (1 : Int32))])) _
                  exact retN X0 hx (t := .boolean) Bd.returns (by simp) (hb hby d4_70) hrT
                · show Q4 Z p0 p1 h0 n0 _ s₁.heap _
                  rw [e0]
                  have hv : f_exp p0 p1 = (1 : Int32) := by unfold f_exp; rw [if_neg hc3_285]; rw [if_pos hc11_287]; rw [if_neg hc18_289]; rw [if_neg hc28_293]; rw [if_neg hc39_297]; rw [if_neg hc50_301]; rw [if_pos hc62_305]
                  exact ⟨(congrArg (fun z => some (Value.int z)) hv.symm), N0, rfl⟩
              case neg =>
                obtain ⟨fs, hrT, hrunT, hendT, hWT, hsameT⟩ := X0.leave (v := some (.int (0 : Int32))) (fun h => by rw [Bd.returns] at h; cases h)
                refine ⟨_, _, S304 _ ?_, hrunT, hendT, _, _, rfl, ?_, ⟨_, rfl⟩, hWT, hsameT.mono (by decide) (by decide)⟩
                · show Steps p.tables e below (s₁.setTop (mkF m 62 #[.val (.int p0), .val (.int p1), .val (.int (4 : Int32))] [(.int (4 : Int32)), (.int p1)])) _
                  refine XS.icmpYes X0.here hx rfl (pc0 := 62) (pc' := 69) rfl (hb hby d4_62) rfl (XT.ii_ne_t hc62_305) (by decide) (by decide) ?_
                  show Steps p.tables e below (s₁.setTop (mkF m 69 #[.val (.int p0), .val (.int p1), .val (.int (4 : Int32))] [])) _
                  refine XS.iconst X0.here hx rfl (hb hby d4_69) ?_
                  show Steps p.tables e below (s₁.setTop (mkF m 70 #[.val (.int p0), .val (.int p1), .val (.int (4 : Int32))] [(.int (0 : Int32))])) _
                  exact retN X0 hx (t := .boolean) Bd.returns (by simp) (hb hby d4_70) hrT
                · show Q4 Z p0 p1 h0 n0 _ s₁.heap _
                  rw [e0]
                  have hv : f_exp p0 p1 = (0 : Int32) := by unfold f_exp; rw [if_neg hc3_285]; rw [if_pos hc11_287]; rw [if_neg hc18_289]; rw [if_neg hc28_293]; rw [if_neg hc39_297]; rw [if_neg hc50_301]; rw [if_neg hc62_305]
                  exact ⟨(congrArg (fun z => some (Value.int z)) hv.symm), N0, rfl⟩
    case neg =>
      obtain ⟨fs, hrT, hrunT, hendT, hWT, hsameT⟩ := X0.leave (v := some (.int (0 : Int32))) (fun h => by rw [Bd.returns] at h; cases h)
      refine ⟨_, _, S286 _ ?_, hrunT, hendT, _, _, rfl, ?_, ⟨_, rfl⟩, hWT, hsameT.mono (by decide) (by decide)⟩
      · show Steps p.tables e below (s₁.setTop (mkF m 11 #[.val (.int p0), .val (.int p1), .unset] [(.int (11 : Int32)), (.int p0)])) _
        refine XS.icmpNo X0.here hx rfl (hb hby d4_11) rfl (XT.ii_lt_f hc11_287) ?_
        show Steps p.tables e below (s₁.setTop (mkF m 14 #[.val (.int p0), .val (.int p1), .unset] [])) _
        refine XS.iconst X0.here hx rfl (hb hby d4_14) ?_
        show Steps p.tables e below (s₁.setTop (mkF m 15 #[.val (.int p0), .val (.int p1), .unset] [(.int (0 : Int32))])) _
        exact retN X0 hx (t := .boolean) Bd.returns (by simp) (hb hby d4_15) hrT
      · show Q4 Z p0 p1 h0 n0 _ s₁.heap _
        rw [e0]
        have hv : f_exp p0 p1 = (0 : Int32) := by unfold f_exp; rw [if_neg hc3_285]; rw [if_neg hc11_287]
        exact ⟨(congrArg (fun z => some (Value.int z)) hv.symm), N0, rfl⟩
theorem own_ex0 (c : Int32) : f_exp (0 : Int32) c = if c = (0 : Int32) then 1 else 0 := by unfold f_exp; rw [if_neg (by decide), if_pos (by decide), if_pos (by decide)]
theorem own_ex1 (c : Int32) : f_exp (1 : Int32) c = if c = (0 : Int32) then 1 else 0 := by unfold f_exp; rw [if_neg (by decide), if_pos (by decide), if_pos (by decide)]
theorem own_ex2 (c : Int32) : f_exp (2 : Int32) c = if c = (1 : Int32) then 1 else 0 := by unfold f_exp; rw [if_neg (by decide), if_pos (by decide), if_neg (by decide), if_pos (by decide)]
theorem own_ex3 (c : Int32) : f_exp (3 : Int32) c = if c = (1 : Int32) then 1 else 0 := by unfold f_exp; rw [if_neg (by decide), if_pos (by decide), if_neg (by decide), if_pos (by decide)]
theorem own_ex4 (c : Int32) : f_exp (4 : Int32) c = if c = (3 : Int32) then 1 else 0 := by unfold f_exp; rw [if_neg (by decide), if_pos (by decide), if_neg (by decide), if_neg (by decide), if_pos (by decide)]
theorem own_ex5 (c : Int32) : f_exp (5 : Int32) c = if c = (3 : Int32) then 1 else 0 := by unfold f_exp; rw [if_neg (by decide), if_pos (by decide), if_neg (by decide), if_neg (by decide), if_pos (by decide)]
theorem own_ex6 (c : Int32) : f_exp (6 : Int32) c = if c = (2 : Int32) then 1 else 0 := by unfold f_exp; rw [if_neg (by decide), if_pos (by decide), if_neg (by decide), if_neg (by decide), if_neg (by decide), if_pos (by decide)]
theorem own_ex7 (c : Int32) : f_exp (7 : Int32) c = if c = (2 : Int32) then 1 else 0 := by unfold f_exp; rw [if_neg (by decide), if_pos (by decide), if_neg (by decide), if_neg (by decide), if_neg (by decide), if_pos (by decide)]
theorem own_ex8 (c : Int32) : f_exp (8 : Int32) c = if c = (4 : Int32) then 1 else 0 := by unfold f_exp; rw [if_neg (by decide), if_pos (by decide), if_neg (by decide), if_neg (by decide), if_neg (by decide), if_neg (by decide)]
theorem own_ex9 (c : Int32) : f_exp (9 : Int32) c = if c = (4 : Int32) then 1 else 0 := by unfold f_exp; rw [if_neg (by decide), if_pos (by decide), if_neg (by decide), if_neg (by decide), if_neg (by decide), if_neg (by decide)]
theorem own_ex10 (c : Int32) : f_exp (10 : Int32) c = 1 := by unfold f_exp; rw [if_pos (by decide)]
theorem own_ex11 (c : Int32) : f_exp (11 : Int32) c = 0 := by unfold f_exp; rw [if_neg (by decide), if_neg (by decide)]
theorem own_ex12 (c : Int32) : f_exp (12 : Int32) c = 0 := by unfold f_exp; rw [if_neg (by decide), if_neg (by decide)]
theorem own_ex13 (c : Int32) : f_exp (13 : Int32) c = 0 := by unfold f_exp; rw [if_neg (by decide), if_neg (by decide)]
theorem own_ex14 (c : Int32) : f_exp (14 : Int32) c = 0 := by unfold f_exp; rw [if_neg (by decide), if_neg (by decide)]
theorem own_ex15 (c : Int32) : f_exp (15 : Int32) c = 0 := by unfold f_exp; rw [if_neg (by decide), if_neg (by decide)]
theorem own_ex16 (c : Int32) : f_exp (16 : Int32) c = 0 := by unfold f_exp; rw [if_neg (by decide), if_neg (by decide)]
theorem own_col0 (v_WARRIOR v_HUNTER v_MINER v_BLACKSMITH v_EXPLORER : Addr) : f_col (0 : Int32) v_WARRIOR v_HUNTER v_MINER v_BLACKSMITH v_EXPLORER = v_WARRIOR := by unfold f_col; rw [if_pos (by decide)]
theorem own_col1 (v_WARRIOR v_HUNTER v_MINER v_BLACKSMITH v_EXPLORER : Addr) : f_col (1 : Int32) v_WARRIOR v_HUNTER v_MINER v_BLACKSMITH v_EXPLORER = v_HUNTER := by unfold f_col; rw [if_neg (by decide), if_pos (by decide)]
theorem own_col2 (v_WARRIOR v_HUNTER v_MINER v_BLACKSMITH v_EXPLORER : Addr) : f_col (2 : Int32) v_WARRIOR v_HUNTER v_MINER v_BLACKSMITH v_EXPLORER = v_MINER := by unfold f_col; rw [if_neg (by decide), if_neg (by decide), if_pos (by decide)]
theorem own_col3 (v_WARRIOR v_HUNTER v_MINER v_BLACKSMITH v_EXPLORER : Addr) : f_col (3 : Int32) v_WARRIOR v_HUNTER v_MINER v_BLACKSMITH v_EXPLORER = v_BLACKSMITH := by unfold f_col; rw [if_neg (by decide), if_neg (by decide), if_neg (by decide), if_pos (by decide)]
theorem own_col4 (v_WARRIOR v_HUNTER v_MINER v_BLACKSMITH v_EXPLORER : Addr) : f_col (4 : Int32) v_WARRIOR v_HUNTER v_MINER v_BLACKSMITH v_EXPLORER = v_EXPLORER := by unfold f_col; rw [if_neg (by decide), if_neg (by decide), if_neg (by decide), if_neg (by decide)]
theorem own_inj {Z : State} {h : Heap} {v_WARRIOR v_HUNTER v_MINER v_BLACKSMITH v_EXPLORER : Addr} (F0 : Fld Z h v_WARRIOR "java/lang/Enum" "ordinal" "I" (.int (0 : Int32))) (F1 : Fld Z h v_HUNTER "java/lang/Enum" "ordinal" "I" (.int (1 : Int32))) (F2 : Fld Z h v_MINER "java/lang/Enum" "ordinal" "I" (.int (2 : Int32))) (F3 : Fld Z h v_BLACKSMITH "java/lang/Enum" "ordinal" "I" (.int (3 : Int32))) (F4 : Fld Z h v_EXPLORER "java/lang/Enum" "ordinal" "I" (.int (4 : Int32))) {a b : Int32} (ha : 0 ≤ a.toInt ∧ a.toInt < 5) (hb : 0 ≤ b.toInt ∧ b.toInt < 5) : f_col a v_WARRIOR v_HUNTER v_MINER v_BLACKSMITH v_EXPLORER = f_col b v_WARRIOR v_HUNTER v_MINER v_BLACKSMITH v_EXPLORER ↔ a = b := by
  have fo : ∀ c : Int32, 0 ≤ c.toInt ∧ c.toInt < 5 → Fld Z h (f_col c v_WARRIOR v_HUNTER v_MINER v_BLACKSMITH v_EXPLORER) "java/lang/Enum" "ordinal" "I" (.int c) := fun c hc => by
    rcases own_or5 c hc with rfl | rfl | rfl | rfl | rfl
    · rw [own_col0]; exact F0
    · rw [own_col1]; exact F1
    · rw [own_col2]; exact F2
    · rw [own_col3]; exact F3
    · rw [own_col4]; exact F4
  refine ⟨fun e => ?_, fun e => by rw [e]⟩
  have q := own_uniq (fo a ha) (e ▸ fo b hb)
  injection q
theorem own_agree {Z : State} {h : Heap} {v_WARRIOR v_HUNTER v_MINER v_BLACKSMITH v_EXPLORER vU bb : Addr} {hh cc : Int32} (F0 : Fld Z h v_WARRIOR "java/lang/Enum" "ordinal" "I" (.int (0 : Int32))) (F1 : Fld Z h v_HUNTER "java/lang/Enum" "ordinal" "I" (.int (1 : Int32))) (F2 : Fld Z h v_MINER "java/lang/Enum" "ordinal" "I" (.int (2 : Int32))) (F3 : Fld Z h v_BLACKSMITH "java/lang/Enum" "ordinal" "I" (.int (3 : Int32))) (F4 : Fld Z h v_EXPLORER "java/lang/Enum" "ordinal" "I" (.int (4 : Int32))) (FU : Fld Z h vU "java/lang/Enum" "ordinal" "I" (.int (10 : Int32))) (FB : Fld Z h bb "java/lang/Enum" "ordinal" "I" (.int hh)) (q : hh = (10 : Int32) → bb = vU) (h1 : 0 ≤ hh.toInt ∧ hh.toInt < 17) (h2 : 0 ≤ cc.toInt ∧ cc.toInt < 5) :
    f_may bb (f_col cc v_WARRIOR v_HUNTER v_MINER v_BLACKSMITH v_EXPLORER) vU (f_dc hh v_WARRIOR v_HUNTER v_MINER v_BLACKSMITH v_EXPLORER) = f_exp hh cc := by
  have nu : hh ≠ (10 : Int32) → ¬ bb = vU := fun n => own_apart FB FU (fun e => n (by injection e))
  have key : ∀ w : Int32, 0 ≤ w.toInt ∧ w.toInt < 5 → ∀ y : Addr, f_col w v_WARRIOR v_HUNTER v_MINER v_BLACKSMITH v_EXPLORER = y → (if (Value.ref (f_col cc v_WARRIOR v_HUNTER v_MINER v_BLACKSMITH v_EXPLORER)) = .ref y then (1 : Int32) else 0) = if cc = w then 1 else 0 := fun w hw y hy => by
    subst hy
    have e := own_inj F0 F1 F2 F3 F4 h2 hw
    by_cases g : cc = w
    · rw [if_pos g, if_pos (congrArg Value.ref (e.mpr g))]
    · rw [if_neg g, if_neg (fun z => g (e.mp (Value.ref.inj z)))]
  unfold f_may
  rcases own_or17 hh h1 with rfl | rfl | rfl | rfl | rfl | rfl | rfl | rfl | rfl | rfl | rfl | rfl | rfl | rfl | rfl | rfl | rfl
  · rw [if_neg (nu (by decide)), own_dc0, own_ex0]; exact key 0 (by decide) _ (own_col0 _ _ _ _ _)
  · rw [if_neg (nu (by decide)), own_dc1, own_ex1]; exact key 0 (by decide) _ (own_col0 _ _ _ _ _)
  · rw [if_neg (nu (by decide)), own_dc2, own_ex2]; exact key 1 (by decide) _ (own_col1 _ _ _ _ _)
  · rw [if_neg (nu (by decide)), own_dc3, own_ex3]; exact key 1 (by decide) _ (own_col1 _ _ _ _ _)
  · rw [if_neg (nu (by decide)), own_dc4, own_ex4]; exact key 3 (by decide) _ (own_col3 _ _ _ _ _)
  · rw [if_neg (nu (by decide)), own_dc5, own_ex5]; exact key 3 (by decide) _ (own_col3 _ _ _ _ _)
  · rw [if_neg (nu (by decide)), own_dc6, own_ex6]; exact key 2 (by decide) _ (own_col2 _ _ _ _ _)
  · rw [if_neg (nu (by decide)), own_dc7, own_ex7]; exact key 2 (by decide) _ (own_col2 _ _ _ _ _)
  · rw [if_neg (nu (by decide)), own_dc8, own_ex8]; exact key 4 (by decide) _ (own_col4 _ _ _ _ _)
  · rw [if_neg (nu (by decide)), own_dc9, own_ex9]; exact key 4 (by decide) _ (own_col4 _ _ _ _ _)
  · rw [if_pos (q rfl), own_ex10]
  · rw [if_neg (nu (by decide)), own_dc11, own_ex11, if_neg (by intro z; cases z)]
  · rw [if_neg (nu (by decide)), own_dc12, own_ex12, if_neg (by intro z; cases z)]
  · rw [if_neg (nu (by decide)), own_dc13, own_ex13, if_neg (by intro z; cases z)]
  · rw [if_neg (nu (by decide)), own_dc14, own_ex14, if_neg (by intro z; cases z)]
  · rw [if_neg (nu (by decide)), own_dc15, own_ex15, if_neg (by intro z; cases z)]
  · rw [if_neg (nu (by decide)), own_dc16, own_ex16, if_neg (by intro z; cases z)]
theorem pd__I_Lcom_example_runehall_runehall_tavern_Hero_ : parseMethodDescriptor "(I)Lcom/example/runehall/runehall/tavern/Hero;" = some ⟨[.int], some (.object "com/example/runehall/runehall/tavern/Hero")⟩ := by decide +kernel
theorem pd__I_Lcom_example_runehall_runehall_tavern_DwarfClass_ : parseMethodDescriptor "(I)Lcom/example/runehall/runehall/tavern/DwarfClass;" = some ⟨[.int], some (.object "com/example/runehall/runehall/tavern/DwarfClass")⟩ := by decide +kernel
theorem pd__Lcom_example_runehall_runehall_tavern_DwarfClass__Z : parseMethodDescriptor "(Lcom/example/runehall/runehall/tavern/DwarfClass;)Z" = some ⟨[(.object "com/example/runehall/runehall/tavern/DwarfClass")], some .boolean⟩ := by decide +kernel
theorem pd__II_Z : parseMethodDescriptor "(II)Z" = some ⟨[.int, .int], some .boolean⟩ := by decide +kernel
theorem ef0 (m : MethodId) (x0 : Int32) (x1 : Int32) : entryFrame m #[(.int x0), (.int x1)] maxLocals = mkF m 0 #[.val (.int x0), .val (.int x1), .unset, .unset, .unset, .unset, .unset] [] := by first | (simp [entryFrame, mkF, argsToLocals, Value.category, maxLocals]; done) | rfl
def Q0 (Z : State) (p0 : Int32) (p1 : Int32) (v_VENAL : Addr) (v_DEADLY : Addr) (v_EAGLE_EYE : Addr) (v_EXPLOSIVE : Addr) (v_STEEL_FIST : Addr) (v_TYRANT : Addr) (v_FOREMAN : Addr) (v_GREEDY : Addr) (v_ELUSIVE : Addr) (v_STEALTHY : Addr) (v_UNPREDICTABLE : Addr) (v_BROTHER : Addr) (v_UNFATHOMABLE : Addr) (v_FORTUNATE : Addr) (v_MERCHANT : Addr) (v_SEER : Addr) (v_HEADHUNTER : Addr) (v_WARRIOR : Addr) (v_HUNTER : Addr) (v_MINER : Addr) (v_BLACKSMITH : Addr) (v_EXPLORER : Addr) (h0 : Heap) (n0 : Nat) (v : Option Value) (h : Heap) (L : List Loc) : Prop := v = some (.int (1 : Int32)) ∧ Fr n0 L
set_option maxRecDepth 65536 in
set_option maxHeartbeats 40000000 in
theorem rm0 (l : Launch) (Z : State) (a0 : Array Value) (hw : ∀ d ∈ tables_1, d.before a0 Z = true) (ws : List Jvm.Cond) (p0 : Int32) (p1 : Int32) (v_VENAL : Addr) (v_DEADLY : Addr) (v_EAGLE_EYE : Addr) (v_EXPLOSIVE : Addr) (v_STEEL_FIST : Addr) (v_TYRANT : Addr) (v_FOREMAN : Addr) (v_GREEDY : Addr) (v_ELUSIVE : Addr) (v_STEALTHY : Addr) (v_UNPREDICTABLE : Addr) (v_BROTHER : Addr) (v_UNFATHOMABLE : Addr) (v_FORTUNATE : Addr) (v_MERCHANT : Addr) (v_SEER : Addr) (v_HEADHUNTER : Addr) (v_WARRIOR : Addr) (v_HUNTER : Addr) (v_MINER : Addr) (v_BLACKSMITH : Addr) (v_EXPLORER : Addr) (h0 : Heap) (n0 : Nat) (Z0 : n0 ≤ h0.size) (Sv_VENAL : Sta Z h0 "com/example/runehall/runehall/tavern/Hero" "VENAL" "Lcom/example/runehall/runehall/tavern/Hero;" (.ref v_VENAL)) (Ev_VENAL : Exa Z h0 v_VENAL "com/example/runehall/runehall/tavern/Hero") (Sv_DEADLY : Sta Z h0 "com/example/runehall/runehall/tavern/Hero" "DEADLY" "Lcom/example/runehall/runehall/tavern/Hero;" (.ref v_DEADLY)) (Ev_DEADLY : Exa Z h0 v_DEADLY "com/example/runehall/runehall/tavern/Hero") (Sv_EAGLE_EYE : Sta Z h0 "com/example/runehall/runehall/tavern/Hero" "EAGLE_EYE" "Lcom/example/runehall/runehall/tavern/Hero;" (.ref v_EAGLE_EYE)) (Ev_EAGLE_EYE : Exa Z h0 v_EAGLE_EYE "com/example/runehall/runehall/tavern/Hero") (Sv_EXPLOSIVE : Sta Z h0 "com/example/runehall/runehall/tavern/Hero" "EXPLOSIVE" "Lcom/example/runehall/runehall/tavern/Hero;" (.ref v_EXPLOSIVE)) (Ev_EXPLOSIVE : Exa Z h0 v_EXPLOSIVE "com/example/runehall/runehall/tavern/Hero") (Sv_STEEL_FIST : Sta Z h0 "com/example/runehall/runehall/tavern/Hero" "STEEL_FIST" "Lcom/example/runehall/runehall/tavern/Hero;" (.ref v_STEEL_FIST)) (Ev_STEEL_FIST : Exa Z h0 v_STEEL_FIST "com/example/runehall/runehall/tavern/Hero") (Sv_TYRANT : Sta Z h0 "com/example/runehall/runehall/tavern/Hero" "TYRANT" "Lcom/example/runehall/runehall/tavern/Hero;" (.ref v_TYRANT)) (Ev_TYRANT : Exa Z h0 v_TYRANT "com/example/runehall/runehall/tavern/Hero") (Sv_FOREMAN : Sta Z h0 "com/example/runehall/runehall/tavern/Hero" "FOREMAN" "Lcom/example/runehall/runehall/tavern/Hero;" (.ref v_FOREMAN)) (Ev_FOREMAN : Exa Z h0 v_FOREMAN "com/example/runehall/runehall/tavern/Hero") (Sv_GREEDY : Sta Z h0 "com/example/runehall/runehall/tavern/Hero" "GREEDY" "Lcom/example/runehall/runehall/tavern/Hero;" (.ref v_GREEDY)) (Ev_GREEDY : Exa Z h0 v_GREEDY "com/example/runehall/runehall/tavern/Hero") (Sv_ELUSIVE : Sta Z h0 "com/example/runehall/runehall/tavern/Hero" "ELUSIVE" "Lcom/example/runehall/runehall/tavern/Hero;" (.ref v_ELUSIVE)) (Ev_ELUSIVE : Exa Z h0 v_ELUSIVE "com/example/runehall/runehall/tavern/Hero") (Sv_STEALTHY : Sta Z h0 "com/example/runehall/runehall/tavern/Hero" "STEALTHY" "Lcom/example/runehall/runehall/tavern/Hero;" (.ref v_STEALTHY)) (Ev_STEALTHY : Exa Z h0 v_STEALTHY "com/example/runehall/runehall/tavern/Hero") (Sv_UNPREDICTABLE : Sta Z h0 "com/example/runehall/runehall/tavern/Hero" "UNPREDICTABLE" "Lcom/example/runehall/runehall/tavern/Hero;" (.ref v_UNPREDICTABLE)) (Ev_UNPREDICTABLE : Exa Z h0 v_UNPREDICTABLE "com/example/runehall/runehall/tavern/Hero") (Sv_BROTHER : Sta Z h0 "com/example/runehall/runehall/tavern/Hero" "BROTHER" "Lcom/example/runehall/runehall/tavern/Hero;" (.ref v_BROTHER)) (Ev_BROTHER : Exa Z h0 v_BROTHER "com/example/runehall/runehall/tavern/Hero") (Sv_UNFATHOMABLE : Sta Z h0 "com/example/runehall/runehall/tavern/Hero" "UNFATHOMABLE" "Lcom/example/runehall/runehall/tavern/Hero;" (.ref v_UNFATHOMABLE)) (Ev_UNFATHOMABLE : Exa Z h0 v_UNFATHOMABLE "com/example/runehall/runehall/tavern/Hero") (Sv_FORTUNATE : Sta Z h0 "com/example/runehall/runehall/tavern/Hero" "FORTUNATE" "Lcom/example/runehall/runehall/tavern/Hero;" (.ref v_FORTUNATE)) (Ev_FORTUNATE : Exa Z h0 v_FORTUNATE "com/example/runehall/runehall/tavern/Hero") (Sv_MERCHANT : Sta Z h0 "com/example/runehall/runehall/tavern/Hero" "MERCHANT" "Lcom/example/runehall/runehall/tavern/Hero;" (.ref v_MERCHANT)) (Ev_MERCHANT : Exa Z h0 v_MERCHANT "com/example/runehall/runehall/tavern/Hero") (Sv_SEER : Sta Z h0 "com/example/runehall/runehall/tavern/Hero" "SEER" "Lcom/example/runehall/runehall/tavern/Hero;" (.ref v_SEER)) (Ev_SEER : Exa Z h0 v_SEER "com/example/runehall/runehall/tavern/Hero") (Sv_HEADHUNTER : Sta Z h0 "com/example/runehall/runehall/tavern/Hero" "HEADHUNTER" "Lcom/example/runehall/runehall/tavern/Hero;" (.ref v_HEADHUNTER)) (Ev_HEADHUNTER : Exa Z h0 v_HEADHUNTER "com/example/runehall/runehall/tavern/Hero") (Sv_WARRIOR : Sta Z h0 "com/example/runehall/runehall/tavern/DwarfClass" "WARRIOR" "Lcom/example/runehall/runehall/tavern/DwarfClass;" (.ref v_WARRIOR)) (Ev_WARRIOR : Exa Z h0 v_WARRIOR "com/example/runehall/runehall/tavern/DwarfClass") (Sv_HUNTER : Sta Z h0 "com/example/runehall/runehall/tavern/DwarfClass" "HUNTER" "Lcom/example/runehall/runehall/tavern/DwarfClass;" (.ref v_HUNTER)) (Ev_HUNTER : Exa Z h0 v_HUNTER "com/example/runehall/runehall/tavern/DwarfClass") (Sv_MINER : Sta Z h0 "com/example/runehall/runehall/tavern/DwarfClass" "MINER" "Lcom/example/runehall/runehall/tavern/DwarfClass;" (.ref v_MINER)) (Ev_MINER : Exa Z h0 v_MINER "com/example/runehall/runehall/tavern/DwarfClass") (Sv_BLACKSMITH : Sta Z h0 "com/example/runehall/runehall/tavern/DwarfClass" "BLACKSMITH" "Lcom/example/runehall/runehall/tavern/DwarfClass;" (.ref v_BLACKSMITH)) (Ev_BLACKSMITH : Exa Z h0 v_BLACKSMITH "com/example/runehall/runehall/tavern/DwarfClass") (Sv_EXPLORER : Sta Z h0 "com/example/runehall/runehall/tavern/DwarfClass" "EXPLORER" "Lcom/example/runehall/runehall/tavern/DwarfClass;" (.ref v_EXPLORER)) (Ev_EXPLORER : Exa Z h0 v_EXPLORER "com/example/runehall/runehall/tavern/DwarfClass") (Fv_VENAL_ordinal : Fld Z h0 v_VENAL "java/lang/Enum" "ordinal" "I" (.int (0 : Int32))) (Fv_UNPREDICTABLE_ordinal : Fld Z h0 v_UNPREDICTABLE "java/lang/Enum" "ordinal" "I" (.int (10 : Int32))) (Fv_VENAL_dwarfClass : Fld Z h0 v_VENAL "com/example/runehall/runehall/tavern/Hero" "dwarfClass" "Lcom/example/runehall/runehall/tavern/DwarfClass;" (.ref v_WARRIOR)) (Fv_BLACKSMITH_ordinal : Fld Z h0 v_BLACKSMITH "java/lang/Enum" "ordinal" "I" (.int (3 : Int32))) (Fv_WARRIOR_ordinal : Fld Z h0 v_WARRIOR "java/lang/Enum" "ordinal" "I" (.int (0 : Int32))) (Fv_MERCHANT_ordinal : Fld Z h0 v_MERCHANT "java/lang/Enum" "ordinal" "I" (.int (14 : Int32))) (Fv_MERCHANT_dwarfClass : Fld Z h0 v_MERCHANT "com/example/runehall/runehall/tavern/Hero" "dwarfClass" "Lcom/example/runehall/runehall/tavern/DwarfClass;" .null) (Fv_FOREMAN_ordinal : Fld Z h0 v_FOREMAN "java/lang/Enum" "ordinal" "I" (.int (6 : Int32))) (Fv_FOREMAN_dwarfClass : Fld Z h0 v_FOREMAN "com/example/runehall/runehall/tavern/Hero" "dwarfClass" "Lcom/example/runehall/runehall/tavern/DwarfClass;" (.ref v_MINER)) (Fv_HUNTER_ordinal : Fld Z h0 v_HUNTER "java/lang/Enum" "ordinal" "I" (.int (1 : Int32))) (Fv_MINER_ordinal : Fld Z h0 v_MINER "java/lang/Enum" "ordinal" "I" (.int (2 : Int32))) (Fv_HEADHUNTER_ordinal : Fld Z h0 v_HEADHUNTER "java/lang/Enum" "ordinal" "I" (.int (16 : Int32))) (Fv_HEADHUNTER_dwarfClass : Fld Z h0 v_HEADHUNTER "com/example/runehall/runehall/tavern/Hero" "dwarfClass" "Lcom/example/runehall/runehall/tavern/DwarfClass;" .null) (Fv_DEADLY_ordinal : Fld Z h0 v_DEADLY "java/lang/Enum" "ordinal" "I" (.int (1 : Int32))) (Fv_DEADLY_dwarfClass : Fld Z h0 v_DEADLY "com/example/runehall/runehall/tavern/Hero" "dwarfClass" "Lcom/example/runehall/runehall/tavern/DwarfClass;" (.ref v_WARRIOR)) (Fv_GREEDY_ordinal : Fld Z h0 v_GREEDY "java/lang/Enum" "ordinal" "I" (.int (7 : Int32))) (Fv_GREEDY_dwarfClass : Fld Z h0 v_GREEDY "com/example/runehall/runehall/tavern/Hero" "dwarfClass" "Lcom/example/runehall/runehall/tavern/DwarfClass;" (.ref v_MINER)) (Fv_ELUSIVE_ordinal : Fld Z h0 v_ELUSIVE "java/lang/Enum" "ordinal" "I" (.int (8 : Int32))) (Fv_ELUSIVE_dwarfClass : Fld Z h0 v_ELUSIVE "com/example/runehall/runehall/tavern/Hero" "dwarfClass" "Lcom/example/runehall/runehall/tavern/DwarfClass;" (.ref v_EXPLORER)) (Fv_EXPLORER_ordinal : Fld Z h0 v_EXPLORER "java/lang/Enum" "ordinal" "I" (.int (4 : Int32))) (Fv_UNFATHOMABLE_ordinal : Fld Z h0 v_UNFATHOMABLE "java/lang/Enum" "ordinal" "I" (.int (12 : Int32))) (Fv_UNFATHOMABLE_dwarfClass : Fld Z h0 v_UNFATHOMABLE "com/example/runehall/runehall/tavern/Hero" "dwarfClass" "Lcom/example/runehall/runehall/tavern/DwarfClass;" .null) (Fv_EXPLOSIVE_ordinal : Fld Z h0 v_EXPLOSIVE "java/lang/Enum" "ordinal" "I" (.int (3 : Int32))) (Fv_EXPLOSIVE_dwarfClass : Fld Z h0 v_EXPLOSIVE "com/example/runehall/runehall/tavern/Hero" "dwarfClass" "Lcom/example/runehall/runehall/tavern/DwarfClass;" (.ref v_HUNTER)) (Fv_STEEL_FIST_ordinal : Fld Z h0 v_STEEL_FIST "java/lang/Enum" "ordinal" "I" (.int (4 : Int32))) (Fv_STEEL_FIST_dwarfClass : Fld Z h0 v_STEEL_FIST "com/example/runehall/runehall/tavern/Hero" "dwarfClass" "Lcom/example/runehall/runehall/tavern/DwarfClass;" (.ref v_BLACKSMITH)) (Fv_EAGLE_EYE_ordinal : Fld Z h0 v_EAGLE_EYE "java/lang/Enum" "ordinal" "I" (.int (2 : Int32))) (Fv_EAGLE_EYE_dwarfClass : Fld Z h0 v_EAGLE_EYE "com/example/runehall/runehall/tavern/Hero" "dwarfClass" "Lcom/example/runehall/runehall/tavern/DwarfClass;" (.ref v_HUNTER)) (Fv_FORTUNATE_ordinal : Fld Z h0 v_FORTUNATE "java/lang/Enum" "ordinal" "I" (.int (13 : Int32))) (Fv_FORTUNATE_dwarfClass : Fld Z h0 v_FORTUNATE "com/example/runehall/runehall/tavern/Hero" "dwarfClass" "Lcom/example/runehall/runehall/tavern/DwarfClass;" .null) (Fv_BROTHER_ordinal : Fld Z h0 v_BROTHER "java/lang/Enum" "ordinal" "I" (.int (11 : Int32))) (Fv_BROTHER_dwarfClass : Fld Z h0 v_BROTHER "com/example/runehall/runehall/tavern/Hero" "dwarfClass" "Lcom/example/runehall/runehall/tavern/DwarfClass;" .null) (Fv_STEALTHY_ordinal : Fld Z h0 v_STEALTHY "java/lang/Enum" "ordinal" "I" (.int (9 : Int32))) (Fv_STEALTHY_dwarfClass : Fld Z h0 v_STEALTHY "com/example/runehall/runehall/tavern/Hero" "dwarfClass" "Lcom/example/runehall/runehall/tavern/DwarfClass;" (.ref v_EXPLORER)) (Fv_TYRANT_ordinal : Fld Z h0 v_TYRANT "java/lang/Enum" "ordinal" "I" (.int (5 : Int32))) (Fv_TYRANT_dwarfClass : Fld Z h0 v_TYRANT "com/example/runehall/runehall/tavern/Hero" "dwarfClass" "Lcom/example/runehall/runehall/tavern/DwarfClass;" (.ref v_BLACKSMITH)) (Fv_SEER_ordinal : Fld Z h0 v_SEER "java/lang/Enum" "ordinal" "I" (.int (15 : Int32))) (Fv_SEER_dwarfClass : Fld Z h0 v_SEER "com/example/runehall/runehall/tavern/Hero" "dwarfClass" "Lcom/example/runehall/runehall/tavern/DwarfClass;" .null) (Fv_UNPREDICTABLE_dwarfClass : Fld Z h0 v_UNPREDICTABLE "com/example/runehall/runehall/tavern/Hero" "dwarfClass" "Lcom/example/runehall/runehall/tavern/DwarfClass;" .null) :
    MetFree l x (head1 (Jvm.Cond.code x code maxLocals ret :: ws) room_1) (fun a U => a = #[(.int p0), (.int p1)] ∧ Z.Warmed39 U.vm ∧ U.heap = h0) (fun _ _ _ _ _ => True) (fun _ U o U' => ∃ v L, o = .returned v ∧ Q0 Z p0 p1 v_VENAL v_DEADLY v_EAGLE_EYE v_EXPLOSIVE v_STEEL_FIST v_TYRANT v_FOREMAN v_GREEDY v_ELUSIVE v_STEALTHY v_UNPREDICTABLE v_BROTHER v_UNFATHOMABLE v_FORTUNATE v_MERCHANT v_SEER v_HEADHUNTER v_WARRIOR v_HUNTER v_MINER v_BLACKSMITH v_EXPLORER h0 n0 v U'.heap L ∧ FrameEnd U o U' L room_1.cells room_1.slots) := by
  refine MetFree.of_bodySF (plainFor_of_name pn_HeroMayEndInPinLaw) hisR ?_
  intro p e s m args below meth c s₁ Bd hml0 hP hK
  obtain ⟨rfl, hZ, hh⟩ := hP
  have hx := Bd.exec
  have hby := Bd.bytes
  have hml : c.maxLocals = 7 := hml0
  have hown : s.vm.findClass "com/example/runehall/runehall/tavern/HeroMayEndInPinLaw" = some m.cls := findClass_of_methodNamed Bd.named
  have hnm := (name_of_methodNamed Bd.named Bd.method).1
  have X0 : Stand p l e room_1 s m #[(.int p0), (.int p1)] below meth c s₁ [] 0 0 := Stand.of_body Bd
  have e0 : s₁.heap = h0 := by rw [← hh, Bd.state]; rfl
  have N0 := Fr.nil n0
  have pre0 : ∀ t, Steps p.tables e below (s₁.setTop (mkF m 0 #[.val (.int p0), .val (.int p1), .unset, .unset, .unset, .unset, .unset] [])) t → Steps p.tables e below (s₁.setTop (entryFrame m #[(.int p0), (.int p1)] maxLocals)) t := fun t k => castTop (ef0 m p0 p1) k
  have S306 : ∀ t, Steps p.tables e below (s₁.setTop (mkF m 8 #[.val (.int p0), .val (.int p1), .val (.int ((p0 &&& (2147483647 : Int32)) % (17 : Int32))), .unset, .unset, .unset, .unset] [])) t → Steps p.tables e below (s₁.setTop (entryFrame m #[(.int p0), (.int p1)] maxLocals)) t := by
    intro t kt
    refine pre0 _ ?_
    show Steps p.tables e below (s₁.setTop (mkF m 0 #[.val (.int p0), .val (.int p1), .unset, .unset, .unset, .unset, .unset] [])) _
    refine XS.iloadN X0.here hx rfl (hb hby at_0) rfl ?_
    show Steps p.tables e below (s₁.setTop (mkF m 1 #[.val (.int p0), .val (.int p1), .unset, .unset, .unset, .unset, .unset] [(.int p0)])) _
    refine X0.ldcInt hx hown (mvT hZ (hw _ (List.mem_of_getElem? (i := 0) rfl))) (g := (mkF m 1 #[.val (.int p0), .val (.int p1), .unset, .unset, .unset, .unset, .unset] [(.int p0)])) rfl (hb hby at_1) _ ?_
    show Steps p.tables e below (s₁.setTop (mkF m 3 #[.val (.int p0), .val (.int p1), .unset, .unset, .unset, .unset, .unset] [(.int (2147483647 : Int32)), (.int p0)])) _
    refine XS.iand X0.here hx rfl (hb hby at_3) rfl ?_
    show Steps p.tables e below (s₁.setTop (mkF m 4 #[.val (.int p0), .val (.int p1), .unset, .unset, .unset, .unset, .unset] [(.int (p0 &&& (2147483647 : Int32)))])) _
    refine XS.bipush X0.here hx rfl (hb hby at_4) ?_
    show Steps p.tables e below (s₁.setTop (mkF m 6 #[.val (.int p0), .val (.int p1), .unset, .unset, .unset, .unset, .unset] [(.int (17 : Int32)), (.int (p0 &&& (2147483647 : Int32)))])) _
    refine iremM X0 hx rfl (hb hby at_6) rfl (by decide) ?_
    show Steps p.tables e below (s₁.setTop (mkF m 7 #[.val (.int p0), .val (.int p1), .unset, .unset, .unset, .unset, .unset] [(.int ((p0 &&& (2147483647 : Int32)) % (17 : Int32)))])) _
    refine XS.istoreN X0.here hx rfl (hb hby at_7) rfl (l' := #[.val (.int p0), .val (.int p1), .val (.int ((p0 &&& (2147483647 : Int32)) % (17 : Int32))), .unset, .unset, .unset, .unset]) rfl ?_
    exact kt
  obtain ⟨hh, hd_hh⟩ : ∃ z, z = ((p0 &&& (2147483647 : Int32)) % (17 : Int32)) := ⟨_, rfl⟩
  rw [← hd_hh] at S306
  have S307 : ∀ t, Steps p.tables e below (s₁.setTop (mkF m 15 #[.val (.int p0), .val (.int p1), .val (.int hh), .val (.int ((p1 &&& (2147483647 : Int32)) % (5 : Int32))), .unset, .unset, .unset] [])) t → Steps p.tables e below (s₁.setTop (entryFrame m #[(.int p0), (.int p1)] maxLocals)) t := by
    intro t kt
    refine S306 _ ?_
    show Steps p.tables e below (s₁.setTop (mkF m 8 #[.val (.int p0), .val (.int p1), .val (.int hh), .unset, .unset, .unset, .unset] [])) _
    refine XS.iloadN X0.here hx rfl (hb hby at_8) rfl ?_
    show Steps p.tables e below (s₁.setTop (mkF m 9 #[.val (.int p0), .val (.int p1), .val (.int hh), .unset, .unset, .unset, .unset] [(.int p1)])) _
    refine X0.ldcInt hx hown (mvT hZ (hw _ (List.mem_of_getElem? (i := 0) rfl))) (g := (mkF m 9 #[.val (.int p0), .val (.int p1), .val (.int hh), .unset, .unset, .unset, .unset] [(.int p1)])) rfl (hb hby at_9) _ ?_
    show Steps p.tables e below (s₁.setTop (mkF m 11 #[.val (.int p0), .val (.int p1), .val (.int hh), .unset, .unset, .unset, .unset] [(.int (2147483647 : Int32)), (.int p1)])) _
    refine XS.iand X0.here hx rfl (hb hby at_11) rfl ?_
    show Steps p.tables e below (s₁.setTop (mkF m 12 #[.val (.int p0), .val (.int p1), .val (.int hh), .unset, .unset, .unset, .unset] [(.int (p1 &&& (2147483647 : Int32)))])) _
    refine XS.iconst X0.here hx rfl (hb hby at_12) ?_
    show Steps p.tables e below (s₁.setTop (mkF m 13 #[.val (.int p0), .val (.int p1), .val (.int hh), .unset, .unset, .unset, .unset] [(.int (5 : Int32)), (.int (p1 &&& (2147483647 : Int32)))])) _
    refine iremM X0 hx rfl (hb hby at_13) rfl (by decide) ?_
    show Steps p.tables e below (s₁.setTop (mkF m 14 #[.val (.int p0), .val (.int p1), .val (.int hh), .unset, .unset, .unset, .unset] [(.int ((p1 &&& (2147483647 : Int32)) % (5 : Int32)))])) _
    refine XS.istoreN X0.here hx rfl (hb hby at_14) rfl (l' := #[.val (.int p0), .val (.int p1), .val (.int hh), .val (.int ((p1 &&& (2147483647 : Int32)) % (5 : Int32))), .unset, .unset, .unset]) rfl ?_
    exact kt
  obtain ⟨cc, hd_cc⟩ : ∃ z, z = ((p1 &&& (2147483647 : Int32)) % (5 : Int32)) := ⟨_, rfl⟩
  rw [← hd_cc] at S307
  obtain ⟨_, _, ⟨T308, L308, k308, n308⟩, -, X308, ⟨Lc308, hQ308, l308, y308, z308⟩, st308⟩ := Jvm.LawKit.callS X0 hx (y := (⟨"com/example/runehall/runehall/tavern/HeroMayEndInPinLaw", "hero", "(I)Lcom/example/runehall/runehall/tavern/Hero;"⟩ : MethodName)) hown (mvT hZ (hw _ (List.mem_of_getElem? (i := 1) rfl))) (mvT hZ (hw _ (List.mem_of_getElem? (i := 2) rfl))) (mvT hZ (hw _ (List.mem_of_getElem? (i := 3) rfl))) (mvT hZ (hw _ (List.mem_of_getElem? (i := 4) rfl))) (by decide) (backOf (W := 0) (rm1 l Z a0 hw [] hh v_VENAL v_DEADLY v_EAGLE_EYE v_EXPLOSIVE v_STEEL_FIST v_TYRANT v_FOREMAN v_GREEDY v_ELUSIVE v_STEALTHY v_UNPREDICTABLE v_BROTHER v_UNFATHOMABLE v_FORTUNATE v_MERCHANT v_SEER v_HEADHUNTER v_WARRIOR v_HUNTER v_MINER v_BLACKSMITH v_EXPLORER h0 n0 Z0 (by rw [hd_hh]; exact own_mod17 p0) Sv_VENAL Ev_VENAL Sv_DEADLY Ev_DEADLY Sv_EAGLE_EYE Ev_EAGLE_EYE Sv_EXPLOSIVE Ev_EXPLOSIVE Sv_STEEL_FIST Ev_STEEL_FIST Sv_TYRANT Ev_TYRANT Sv_FOREMAN Ev_FOREMAN Sv_GREEDY Ev_GREEDY Sv_ELUSIVE Ev_ELUSIVE Sv_STEALTHY Ev_STEALTHY Sv_UNPREDICTABLE Ev_UNPREDICTABLE Sv_BROTHER Ev_BROTHER Sv_UNFATHOMABLE Ev_UNFATHOMABLE Sv_FORTUNATE Ev_FORTUNATE Sv_MERCHANT Ev_MERCHANT Sv_SEER Ev_SEER Sv_HEADHUNTER Ev_HEADHUNTER Sv_WARRIOR Ev_WARRIOR Sv_HUNTER Ev_HUNTER Sv_MINER Ev_MINER Sv_BLACKSMITH Ev_BLACKSMITH Sv_EXPLORER Ev_EXPLORER Fv_VENAL_ordinal Fv_UNPREDICTABLE_ordinal Fv_VENAL_dwarfClass Fv_BLACKSMITH_ordinal Fv_WARRIOR_ordinal Fv_MERCHANT_ordinal Fv_MERCHANT_dwarfClass Fv_FOREMAN_ordinal Fv_FOREMAN_dwarfClass Fv_HUNTER_ordinal Fv_MINER_ordinal Fv_HEADHUNTER_ordinal Fv_HEADHUNTER_dwarfClass Fv_DEADLY_ordinal Fv_DEADLY_dwarfClass Fv_GREEDY_ordinal Fv_GREEDY_dwarfClass Fv_ELUSIVE_ordinal Fv_ELUSIVE_dwarfClass Fv_EXPLORER_ordinal Fv_UNFATHOMABLE_ordinal Fv_UNFATHOMABLE_dwarfClass Fv_EXPLOSIVE_ordinal Fv_EXPLOSIVE_dwarfClass Fv_STEEL_FIST_ordinal Fv_STEEL_FIST_dwarfClass Fv_EAGLE_EYE_ordinal Fv_EAGLE_EYE_dwarfClass Fv_FORTUNATE_ordinal Fv_FORTUNATE_dwarfClass Fv_BROTHER_ordinal Fv_BROTHER_dwarfClass Fv_STEALTHY_ordinal Fv_STEALTHY_dwarfClass Fv_TYRANT_ordinal Fv_TYRANT_dwarfClass Fv_SEER_ordinal Fv_SEER_dwarfClass Fv_UNPREDICTABLE_dwarfClass) hZ (hw _ (List.mem_of_getElem? (i := 4) rfl)) (hw _ (List.mem_of_getElem? (i := 3) rfl)) (by decide) (by decide)) (g := (mkF m 16 #[.val (.int p0), .val (.int p1), .val (.int hh), .val (.int cc), .unset, .unset, .unset] [(.int hh)])) rfl (by rw [hml]; rfl) (argsL := [(.int hh)]) (rest := []) (lenOf pd__I_Lcom_example_runehall_runehall_tavern_Hero_ rfl) rfl (by show 2 * 0 + _ ≤ _; exact Nat.le_of_eq rfl) (hb hby at_16) (fun _ _ => ⟨rfl, e0, (by decide : 0 + 1 ≤ _), (by decide : 0 + 17 ≤ _)⟩)
  dsimp only [Pt.U, Pt.locs, Pt.cells, Pt.slots] at X308 l308 y308 z308 st308 hQ308
  subst l308 y308 z308
  obtain ⟨bb_308, rfl, Nq308, Kq308, f308_0, f308_1, f308_2, f308_3⟩ := hQ308
  have K309 : Keep h0 T308.heap [] := Kq308
  have N308 := Fr.app N0 Nq308
  have c311 : Sta Z T308.heap "com/example/runehall/runehall/tavern/DwarfClass" "WARRIOR" "Lcom/example/runehall/runehall/tavern/DwarfClass;" (.ref v_WARRIOR) := (own_sta_keep Sv_WARRIOR Kq308)
  have c312 : Exa Z T308.heap v_WARRIOR "com/example/runehall/runehall/tavern/DwarfClass" := (Ev_WARRIOR.keep Kq308)
  have c313 : Sta Z T308.heap "com/example/runehall/runehall/tavern/DwarfClass" "HUNTER" "Lcom/example/runehall/runehall/tavern/DwarfClass;" (.ref v_HUNTER) := (own_sta_keep Sv_HUNTER Kq308)
  have c314 : Exa Z T308.heap v_HUNTER "com/example/runehall/runehall/tavern/DwarfClass" := (Ev_HUNTER.keep Kq308)
  have c315 : Sta Z T308.heap "com/example/runehall/runehall/tavern/DwarfClass" "MINER" "Lcom/example/runehall/runehall/tavern/DwarfClass;" (.ref v_MINER) := (own_sta_keep Sv_MINER Kq308)
  have c316 : Exa Z T308.heap v_MINER "com/example/runehall/runehall/tavern/DwarfClass" := (Ev_MINER.keep Kq308)
  have c317 : Sta Z T308.heap "com/example/runehall/runehall/tavern/DwarfClass" "BLACKSMITH" "Lcom/example/runehall/runehall/tavern/DwarfClass;" (.ref v_BLACKSMITH) := (own_sta_keep Sv_BLACKSMITH Kq308)
  have c318 : Exa Z T308.heap v_BLACKSMITH "com/example/runehall/runehall/tavern/DwarfClass" := (Ev_BLACKSMITH.keep Kq308)
  have c319 : Sta Z T308.heap "com/example/runehall/runehall/tavern/DwarfClass" "EXPLORER" "Lcom/example/runehall/runehall/tavern/DwarfClass;" (.ref v_EXPLORER) := (own_sta_keep Sv_EXPLORER Kq308)
  have c320 : Exa Z T308.heap v_EXPLORER "com/example/runehall/runehall/tavern/DwarfClass" := (Ev_EXPLORER.keep Kq308)
  obtain ⟨_, _, ⟨T310, L310, k310, n310⟩, -, X310, ⟨Lc310, hQ310, l310, y310, z310⟩, st310⟩ := Jvm.LawKit.callS X308 hx (y := (⟨"com/example/runehall/runehall/tavern/HeroMayEndInPinLaw", "column", "(I)Lcom/example/runehall/runehall/tavern/DwarfClass;"⟩ : MethodName)) hown (mvT hZ (hw _ (List.mem_of_getElem? (i := 43) rfl))) (mvT hZ (hw _ (List.mem_of_getElem? (i := 44) rfl))) (mvT hZ (hw _ (List.mem_of_getElem? (i := 3) rfl))) (mvT hZ (hw _ (List.mem_of_getElem? (i := 45) rfl))) (by decide) (backOf (W := 0) (rm2 l Z a0 hw [] cc v_WARRIOR v_HUNTER v_MINER v_BLACKSMITH v_EXPLORER T308.heap n0 (Nat.le_trans Z0 K309.1) (by rw [hd_cc]; exact own_mod5 p1) c311 c312 c313 c314 c315 c316 c317 c318 c319 c320) hZ (hw _ (List.mem_of_getElem? (i := 45) rfl)) (hw _ (List.mem_of_getElem? (i := 3) rfl)) (by decide) (by decide)) (g := (mkF m 22 #[.val (.int p0), .val (.int p1), .val (.int hh), .val (.int cc), .val (.ref bb_308), .unset, .unset] [(.int cc)])) rfl (by rw [hml]; rfl) (argsL := [(.int cc)]) (rest := []) (lenOf pd__I_Lcom_example_runehall_runehall_tavern_DwarfClass_ rfl) rfl (by show 2 * 0 + _ ≤ _; exact Nat.le_of_eq rfl) (hb hby at_22) (fun _ _ => ⟨rfl, rfl, (by decide : 1 + 1 ≤ _), (by decide : 17 + 5 ≤ _)⟩)
  dsimp only [Pt.U, Pt.locs, Pt.cells, Pt.slots] at X310 l310 y310 z310 st310 hQ310
  subst l310 y310 z310
  obtain ⟨rfl, Nq310, Kq310⟩ := hQ310
  have K321 : Keep h0 T310.heap [] := K309.trans Kq310 (fun x hx => by simp at hx)
  have N310 := Fr.app N308 Nq310
  have c322 : Exa Z T310.heap bb_308 "com/example/runehall/runehall/tavern/Hero" := (f308_0.keep Kq310)
  have c324 : Sta Z T310.heap "com/example/runehall/runehall/tavern/Hero" "UNPREDICTABLE" "Lcom/example/runehall/runehall/tavern/Hero;" (.ref v_UNPREDICTABLE) := (own_sta_keep (own_sta_keep Sv_UNPREDICTABLE Kq308) Kq310)
  have c325 : Fld Z T310.heap bb_308 "com/example/runehall/runehall/tavern/Hero" "dwarfClass" "Lcom/example/runehall/runehall/tavern/DwarfClass;" (f_dc hh v_WARRIOR v_HUNTER v_MINER v_BLACKSMITH v_EXPLORER) := (f308_1.keep Kq310 List.not_mem_nil)
  obtain ⟨cq323, kq323, q323a, q323b, q323c⟩ := isOf hZ rfl c322
  obtain ⟨_, _, ⟨T323, L323, k323, n323⟩, -, X323, ⟨Lc323, hQ323, l323, y323, z323⟩, st323⟩ := X310.virtualBack hx (y := (⟨"com/example/runehall/runehall/tavern/Hero", "mayEndIn", "(Lcom/example/runehall/runehall/tavern/DwarfClass;)Z"⟩ : MethodName)) (z := (⟨"com/example/runehall/runehall/tavern/Hero", "mayEndIn", "(Lcom/example/runehall/runehall/tavern/DwarfClass;)Z"⟩ : MethodName)) hown (mvT hZ (hw _ (List.mem_of_getElem? (i := 60) rfl))) (mvT hZ (hw _ (List.mem_of_getElem? (i := 61) rfl))) (notFace_of_selects (args := #[]) (mvT hZ (hw _ (List.mem_of_getElem? (i := 63) rfl)))) (mvT hZ (hw _ (List.mem_of_getElem? (i := 63) rfl))) (mvT hZ (hw _ (List.mem_of_getElem? (i := 62) rfl))) (by decide) (backOf (W := 0) (rm3 l Z a0 hw [] bb_308 (f_col cc v_WARRIOR v_HUNTER v_MINER v_BLACKSMITH v_EXPLORER) v_UNPREDICTABLE (f_dc hh v_WARRIOR v_HUNTER v_MINER v_BLACKSMITH v_EXPLORER) T310.heap n0 (Nat.le_trans Z0 K321.1) c324 c325 (own_dcref hh v_WARRIOR v_HUNTER v_MINER v_BLACKSMITH v_EXPLORER)) hZ (hw _ (List.mem_of_getElem? (i := 64) rfl)) (hw _ (List.mem_of_getElem? (i := 8) rfl)) (by decide) (by decide)) q323a q323c (g := (mkF m 31 #[.val (.int p0), .val (.int p1), .val (.int hh), .val (.int cc), .val (.ref bb_308), .val (.ref (f_col cc v_WARRIOR v_HUNTER v_MINER v_BLACKSMITH v_EXPLORER)), .unset] [(.ref (f_col cc v_WARRIOR v_HUNTER v_MINER v_BLACKSMITH v_EXPLORER)), (.ref bb_308)])) rfl (by rw [hml]; rfl) (Steps.refl _) (argsL := [(.ref (f_col cc v_WARRIOR v_HUNTER v_MINER v_BLACKSMITH v_EXPLORER))]) (rest := []) (lenOf pd__Lcom_example_runehall_runehall_tavern_DwarfClass__Z rfl) rfl (by show 2 * 0 + _ ≤ _; exact Nat.le_of_eq rfl) (hb hby at_31) (fun _ _ => ⟨rfl, rfl, (by decide : 2 + 0 ≤ _), (by decide : 22 + 0 ≤ _)⟩)
  dsimp only [Pt.U, Pt.locs, Pt.cells, Pt.slots] at X323 l323 y323 z323 st323 hQ323
  subst l323 y323 z323
  obtain ⟨rfl, Nq323, e323⟩ := hQ323
  have N323 := Fr.app N310 Nq323
  obtain ⟨_, _, ⟨T326, L326, k326, n326⟩, -, X326, ⟨Lc326, hQ326, l326, y326, z326⟩, st326⟩ := Jvm.LawKit.callS X323 hx (y := (⟨"com/example/runehall/runehall/tavern/HeroMayEndInPinLaw", "expected", "(II)Z"⟩ : MethodName)) hown (mvT hZ (hw _ (List.mem_of_getElem? (i := 68) rfl))) (mvT hZ (hw _ (List.mem_of_getElem? (i := 69) rfl))) (mvT hZ (hw _ (List.mem_of_getElem? (i := 3) rfl))) (mvT hZ (hw _ (List.mem_of_getElem? (i := 70) rfl))) (by decide) (backOf (W := 1) (rm4 l Z a0 hw [] hh cc T310.heap n0 (Nat.le_trans Z0 K321.1) ) hZ (hw _ (List.mem_of_getElem? (i := 70) rfl)) (hw _ (List.mem_of_getElem? (i := 3) rfl)) (by decide) (by decide)) (g := (mkF m 40 #[.val (.int p0), .val (.int p1), .val (.int hh), .val (.int cc), .val (.ref bb_308), .val (.ref (f_col cc v_WARRIOR v_HUNTER v_MINER v_BLACKSMITH v_EXPLORER)), .val (.int (f_may bb_308 (f_col cc v_WARRIOR v_HUNTER v_MINER v_BLACKSMITH v_EXPLORER) v_UNPREDICTABLE (f_dc hh v_WARRIOR v_HUNTER v_MINER v_BLACKSMITH v_EXPLORER)))] [(.int cc), (.int hh), (.int (f_may bb_308 (f_col cc v_WARRIOR v_HUNTER v_MINER v_BLACKSMITH v_EXPLORER) v_UNPREDICTABLE (f_dc hh v_WARRIOR v_HUNTER v_MINER v_BLACKSMITH v_EXPLORER)))])) rfl (by rw [hml]; rfl) (argsL := [(.int hh), (.int cc)]) (rest := [(.int (f_may bb_308 (f_col cc v_WARRIOR v_HUNTER v_MINER v_BLACKSMITH v_EXPLORER) v_UNPREDICTABLE (f_dc hh v_WARRIOR v_HUNTER v_MINER v_BLACKSMITH v_EXPLORER)))]) (lenOf pd__II_Z rfl) rfl (by show 2 * 0 + _ ≤ _; exact Nat.le_of_eq rfl) (hb hby at_40) (fun _ _ => ⟨rfl, e323, (by decide : 2 + 0 ≤ _), (by decide : 22 + 0 ≤ _)⟩)
  dsimp only [Pt.U, Pt.locs, Pt.cells, Pt.slots] at X326 l326 y326 z326 st326 hQ326
  subst l326 y326 z326
  obtain ⟨rfl, Nq326, e326⟩ := hQ326
  have N326 := Fr.app N323 Nq326
  have c327 : Fld Z T310.heap v_WARRIOR "java/lang/Enum" "ordinal" "I" (.int (0 : Int32)) := ((Fv_WARRIOR_ordinal.keep Kq308 List.not_mem_nil).keep Kq310 List.not_mem_nil)
  have c328 : Fld Z T310.heap v_HUNTER "java/lang/Enum" "ordinal" "I" (.int (1 : Int32)) := ((Fv_HUNTER_ordinal.keep Kq308 List.not_mem_nil).keep Kq310 List.not_mem_nil)
  have c329 : Fld Z T310.heap v_MINER "java/lang/Enum" "ordinal" "I" (.int (2 : Int32)) := ((Fv_MINER_ordinal.keep Kq308 List.not_mem_nil).keep Kq310 List.not_mem_nil)
  have c330 : Fld Z T310.heap v_BLACKSMITH "java/lang/Enum" "ordinal" "I" (.int (3 : Int32)) := ((Fv_BLACKSMITH_ordinal.keep Kq308 List.not_mem_nil).keep Kq310 List.not_mem_nil)
  have c331 : Fld Z T310.heap v_EXPLORER "java/lang/Enum" "ordinal" "I" (.int (4 : Int32)) := ((Fv_EXPLORER_ordinal.keep Kq308 List.not_mem_nil).keep Kq310 List.not_mem_nil)
  have c332 : Fld Z T310.heap v_UNPREDICTABLE "java/lang/Enum" "ordinal" "I" (.int (10 : Int32)) := ((Fv_UNPREDICTABLE_ordinal.keep Kq308 List.not_mem_nil).keep Kq310 List.not_mem_nil)
  have c333 : Fld Z T310.heap bb_308 "java/lang/Enum" "ordinal" "I" (.int hh) := (f308_2.keep Kq310 List.not_mem_nil)
  obtain ⟨fs, hrT, hrunT, hendT, hWT, hsameT⟩ := X326.leave (v := some (.int (1 : Int32))) (fun h => by rw [Bd.returns] at h; cases h)
  refine ⟨_, _, S307 _ ?_, hrunT, hendT, _, _, rfl, ?_, ⟨_, rfl⟩, hWT, hsameT.mono (by decide) (by decide)⟩
  · show Steps p.tables e below (s₁.setTop (mkF m 15 #[.val (.int p0), .val (.int p1), .val (.int hh), .val (.int cc), .unset, .unset, .unset] [])) _
    refine XS.iloadN X0.here hx rfl (hb hby at_15) rfl ?_
    show Steps p.tables e below (s₁.setTop (mkF m 16 #[.val (.int p0), .val (.int p1), .val (.int hh), .val (.int cc), .unset, .unset, .unset] [(.int hh)])) _
    refine st308 _ ?_
    show Steps p.tables e below (T308.setTop (mkF m 19 #[.val (.int p0), .val (.int p1), .val (.int hh), .val (.int cc), .unset, .unset, .unset] [(.ref bb_308)])) _
    refine XS.astore X308.here hx rfl (hb hby at_19) rfl rfl (l' := #[.val (.int p0), .val (.int p1), .val (.int hh), .val (.int cc), .val (.ref bb_308), .unset, .unset]) rfl ?_
    show Steps p.tables e below (T308.setTop (mkF m 21 #[.val (.int p0), .val (.int p1), .val (.int hh), .val (.int cc), .val (.ref bb_308), .unset, .unset] [])) _
    refine XS.iloadN X308.here hx rfl (hb hby at_21) rfl ?_
    show Steps p.tables e below (T308.setTop (mkF m 22 #[.val (.int p0), .val (.int p1), .val (.int hh), .val (.int cc), .val (.ref bb_308), .unset, .unset] [(.int cc)])) _
    refine st310 _ ?_
    show Steps p.tables e below (T310.setTop (mkF m 25 #[.val (.int p0), .val (.int p1), .val (.int hh), .val (.int cc), .val (.ref bb_308), .unset, .unset] [(.ref (f_col cc v_WARRIOR v_HUNTER v_MINER v_BLACKSMITH v_EXPLORER))])) _
    refine XS.astore X310.here hx rfl (hb hby at_25) rfl rfl (l' := #[.val (.int p0), .val (.int p1), .val (.int hh), .val (.int cc), .val (.ref bb_308), .val (.ref (f_col cc v_WARRIOR v_HUNTER v_MINER v_BLACKSMITH v_EXPLORER)), .unset]) rfl ?_
    show Steps p.tables e below (T310.setTop (mkF m 27 #[.val (.int p0), .val (.int p1), .val (.int hh), .val (.int cc), .val (.ref bb_308), .val (.ref (f_col cc v_WARRIOR v_HUNTER v_MINER v_BLACKSMITH v_EXPLORER)), .unset] [])) _
    refine XS.aload X310.here hx rfl (hb hby at_27) rfl rfl ?_
    show Steps p.tables e below (T310.setTop (mkF m 29 #[.val (.int p0), .val (.int p1), .val (.int hh), .val (.int cc), .val (.ref bb_308), .val (.ref (f_col cc v_WARRIOR v_HUNTER v_MINER v_BLACKSMITH v_EXPLORER)), .unset] [(.ref bb_308)])) _
    refine XS.aload X310.here hx rfl (hb hby at_29) rfl rfl ?_
    show Steps p.tables e below (T310.setTop (mkF m 31 #[.val (.int p0), .val (.int p1), .val (.int hh), .val (.int cc), .val (.ref bb_308), .val (.ref (f_col cc v_WARRIOR v_HUNTER v_MINER v_BLACKSMITH v_EXPLORER)), .unset] [(.ref (f_col cc v_WARRIOR v_HUNTER v_MINER v_BLACKSMITH v_EXPLORER)), (.ref bb_308)])) _
    refine st323.trans ?_
    show Steps p.tables e below (T323.setTop (mkF m 34 #[.val (.int p0), .val (.int p1), .val (.int hh), .val (.int cc), .val (.ref bb_308), .val (.ref (f_col cc v_WARRIOR v_HUNTER v_MINER v_BLACKSMITH v_EXPLORER)), .unset] [(.int (f_may bb_308 (f_col cc v_WARRIOR v_HUNTER v_MINER v_BLACKSMITH v_EXPLORER) v_UNPREDICTABLE (f_dc hh v_WARRIOR v_HUNTER v_MINER v_BLACKSMITH v_EXPLORER)))])) _
    refine XS.istore X323.here hx rfl (hb hby at_34) rfl (l' := #[.val (.int p0), .val (.int p1), .val (.int hh), .val (.int cc), .val (.ref bb_308), .val (.ref (f_col cc v_WARRIOR v_HUNTER v_MINER v_BLACKSMITH v_EXPLORER)), .val (.int (f_may bb_308 (f_col cc v_WARRIOR v_HUNTER v_MINER v_BLACKSMITH v_EXPLORER) v_UNPREDICTABLE (f_dc hh v_WARRIOR v_HUNTER v_MINER v_BLACKSMITH v_EXPLORER)))]) rfl ?_
    show Steps p.tables e below (T323.setTop (mkF m 36 #[.val (.int p0), .val (.int p1), .val (.int hh), .val (.int cc), .val (.ref bb_308), .val (.ref (f_col cc v_WARRIOR v_HUNTER v_MINER v_BLACKSMITH v_EXPLORER)), .val (.int (f_may bb_308 (f_col cc v_WARRIOR v_HUNTER v_MINER v_BLACKSMITH v_EXPLORER) v_UNPREDICTABLE (f_dc hh v_WARRIOR v_HUNTER v_MINER v_BLACKSMITH v_EXPLORER)))] [])) _
    refine XS.iload X323.here hx rfl (hb hby at_36) rfl ?_
    show Steps p.tables e below (T323.setTop (mkF m 38 #[.val (.int p0), .val (.int p1), .val (.int hh), .val (.int cc), .val (.ref bb_308), .val (.ref (f_col cc v_WARRIOR v_HUNTER v_MINER v_BLACKSMITH v_EXPLORER)), .val (.int (f_may bb_308 (f_col cc v_WARRIOR v_HUNTER v_MINER v_BLACKSMITH v_EXPLORER) v_UNPREDICTABLE (f_dc hh v_WARRIOR v_HUNTER v_MINER v_BLACKSMITH v_EXPLORER)))] [(.int (f_may bb_308 (f_col cc v_WARRIOR v_HUNTER v_MINER v_BLACKSMITH v_EXPLORER) v_UNPREDICTABLE (f_dc hh v_WARRIOR v_HUNTER v_MINER v_BLACKSMITH v_EXPLORER)))])) _
    refine XS.iloadN X323.here hx rfl (hb hby at_38) rfl ?_
    show Steps p.tables e below (T323.setTop (mkF m 39 #[.val (.int p0), .val (.int p1), .val (.int hh), .val (.int cc), .val (.ref bb_308), .val (.ref (f_col cc v_WARRIOR v_HUNTER v_MINER v_BLACKSMITH v_EXPLORER)), .val (.int (f_may bb_308 (f_col cc v_WARRIOR v_HUNTER v_MINER v_BLACKSMITH v_EXPLORER) v_UNPREDICTABLE (f_dc hh v_WARRIOR v_HUNTER v_MINER v_BLACKSMITH v_EXPLORER)))] [(.int hh), (.int (f_may bb_308 (f_col cc v_WARRIOR v_HUNTER v_MINER v_BLACKSMITH v_EXPLORER) v_UNPREDICTABLE (f_dc hh v_WARRIOR v_HUNTER v_MINER v_BLACKSMITH v_EXPLORER)))])) _
    refine XS.iloadN X323.here hx rfl (hb hby at_39) rfl ?_
    show Steps p.tables e below (T323.setTop (mkF m 40 #[.val (.int p0), .val (.int p1), .val (.int hh), .val (.int cc), .val (.ref bb_308), .val (.ref (f_col cc v_WARRIOR v_HUNTER v_MINER v_BLACKSMITH v_EXPLORER)), .val (.int (f_may bb_308 (f_col cc v_WARRIOR v_HUNTER v_MINER v_BLACKSMITH v_EXPLORER) v_UNPREDICTABLE (f_dc hh v_WARRIOR v_HUNTER v_MINER v_BLACKSMITH v_EXPLORER)))] [(.int cc), (.int hh), (.int (f_may bb_308 (f_col cc v_WARRIOR v_HUNTER v_MINER v_BLACKSMITH v_EXPLORER) v_UNPREDICTABLE (f_dc hh v_WARRIOR v_HUNTER v_MINER v_BLACKSMITH v_EXPLORER)))])) _
    refine st326 _ ?_
    show Steps p.tables e below (T326.setTop (mkF m 43 #[.val (.int p0), .val (.int p1), .val (.int hh), .val (.int cc), .val (.ref bb_308), .val (.ref (f_col cc v_WARRIOR v_HUNTER v_MINER v_BLACKSMITH v_EXPLORER)), .val (.int (f_may bb_308 (f_col cc v_WARRIOR v_HUNTER v_MINER v_BLACKSMITH v_EXPLORER) v_UNPREDICTABLE (f_dc hh v_WARRIOR v_HUNTER v_MINER v_BLACKSMITH v_EXPLORER)))] [(.int (f_exp hh cc)), (.int (f_may bb_308 (f_col cc v_WARRIOR v_HUNTER v_MINER v_BLACKSMITH v_EXPLORER) v_UNPREDICTABLE (f_dc hh v_WARRIOR v_HUNTER v_MINER v_BLACKSMITH v_EXPLORER)))])) _
    refine XS.icmpNo X326.here hx rfl (hb hby at_43) rfl (XT.ii_ne_f (own_agree c327 c328 c329 c330 c331 c332 c333 f308_3 (by rw [hd_hh]; exact own_mod17 p0) (by rw [hd_cc]; exact own_mod5 p1))) ?_
    show Steps p.tables e below (T326.setTop (mkF m 46 #[.val (.int p0), .val (.int p1), .val (.int hh), .val (.int cc), .val (.ref bb_308), .val (.ref (f_col cc v_WARRIOR v_HUNTER v_MINER v_BLACKSMITH v_EXPLORER)), .val (.int (f_may bb_308 (f_col cc v_WARRIOR v_HUNTER v_MINER v_BLACKSMITH v_EXPLORER) v_UNPREDICTABLE (f_dc hh v_WARRIOR v_HUNTER v_MINER v_BLACKSMITH v_EXPLORER)))] [])) _
    refine XS.iconst X326.here hx rfl (hb hby at_46) ?_
    show Steps p.tables e below (T326.setTop (mkF m 47 #[.val (.int p0), .val (.int p1), .val (.int hh), .val (.int cc), .val (.ref bb_308), .val (.ref (f_col cc v_WARRIOR v_HUNTER v_MINER v_BLACKSMITH v_EXPLORER)), .val (.int (f_may bb_308 (f_col cc v_WARRIOR v_HUNTER v_MINER v_BLACKSMITH v_EXPLORER) v_UNPREDICTABLE (f_dc hh v_WARRIOR v_HUNTER v_MINER v_BLACKSMITH v_EXPLORER)))] [(.int (1 : Int32))])) _
    refine XS.goto X326.here hx rfl (pc0 := 47) (pc' := 51) rfl (hb hby at_47) (by decide) (by decide) ?_
    show Steps p.tables e below (T326.setTop (mkF m 51 #[.val (.int p0), .val (.int p1), .val (.int hh), .val (.int cc), .val (.ref bb_308), .val (.ref (f_col cc v_WARRIOR v_HUNTER v_MINER v_BLACKSMITH v_EXPLORER)), .val (.int (f_may bb_308 (f_col cc v_WARRIOR v_HUNTER v_MINER v_BLACKSMITH v_EXPLORER) v_UNPREDICTABLE (f_dc hh v_WARRIOR v_HUNTER v_MINER v_BLACKSMITH v_EXPLORER)))] [(.int (1 : Int32))])) _
    exact retN X326 hx (t := .boolean) Bd.returns (by simp) (hb hby at_51) hrT
  · show Q0 Z p0 p1 v_VENAL v_DEADLY v_EAGLE_EYE v_EXPLOSIVE v_STEEL_FIST v_TYRANT v_FOREMAN v_GREEDY v_ELUSIVE v_STEALTHY v_UNPREDICTABLE v_BROTHER v_UNFATHOMABLE v_FORTUNATE v_MERCHANT v_SEER v_HEADHUNTER v_WARRIOR v_HUNTER v_MINER v_BLACKSMITH v_EXPLORER h0 n0 _ T326.heap _
    rw [e326]
    exact ⟨rfl, N326⟩
set_option maxRecDepth 65536 in
set_option maxHeartbeats 40000000 in
theorem comes_1 {Post : Tables → Env → Array Value → State → Outcome → State → Prop} (hpost : ∀ tb e args s v u, (limb_1_1.after args s (.returned v) u = true ∧ limb_1_2.after args s (.returned v) u = true ∧ True) → FrameEnd s (.returned v) u (Jvm.fieldLocs frame_1_writes args s ++ Jvm.arrayLocs frame_1_arrays args s ++ Jvm.staticLocs frame_1_statics s) 16 128 → Post tb e args s (.returned v) u) :
    ArmFor flags0 classFile x code maxLocals ret World_1 tables_1 room_1 Calls_1 rest_1 Pre_1 Post := by
  intro l hfl _ _ p e ha hc hk s m args below hf hA hF happ hP
  obtain ⟨hcalls, hrest, hpre⟩ := hP
  obtain ⟨-, -, -, hnamed, -, -, -, hat⟩ := (Spec.applies_iff hf).mp happ
  obtain ⟨hg, hn⟩ := and_e (Cond.before_iff.mp (show (Jvm.Cond.and given_1 narrow_1).before args s = true from hpre))
  obtain ⟨gc, gr0⟩ := and_e hg
  obtain ⟨ga0, gr1⟩ := and_e gr0
  have ga1 := gr1
  obtain ⟨w0, w1, rfl⟩ : ∃ w0 w1 : Value, args = #[w0, w1] := by
    have hs : args.size = 2 := by simpa [Cond.value, given_1] using gc
    obtain ⟨L⟩ := args
    match L, hs with
    | [w0, w1], _ => exact ⟨w0, w1, rfl⟩
  have hw := fun d (hd : d ∈ tables_1) => atoms_spec (ws := Jvm.Cond.code x code maxLocals ret :: tables_1) hat d (List.mem_cons_of_mem _ hd)
  have hfit : Fit s := fun {y c} hc i hi => by
    obtain ⟨ha, rfl⟩ := Array.getElem?_eq_some_iff.mp hc
    have q := List.all_eq_true.mp ((Array.all_eq_true_iff_forall_mem.mp hF) _ (Array.getElem_mem ha)) i (List.mem_range.mpr hi)
    simpa [Array.getElem?_eq_getElem hi] using q
  obtain ⟨i0, ei0⟩ := is_v ga0
  obtain rfl : w0 = (.int i0) := Option.some.inj ei0
  obtain ⟨i1, ei1⟩ := is_v ga1
  obtain rfl : w1 = (.int i1) := Option.some.inj ei1
  have nr0 := hn
  obtain ⟨nn0, nr1⟩ := and_e nr0
  obtain ⟨nn1, nr2⟩ := and_e nr1
  obtain ⟨nn2, nr3⟩ := and_e nr2
  obtain ⟨nn3, nr4⟩ := and_e nr3
  obtain ⟨nn4, nr5⟩ := and_e nr4
  obtain ⟨nn5, nr6⟩ := and_e nr5
  obtain ⟨nn6, nr7⟩ := and_e nr6
  obtain ⟨nn7, nr8⟩ := and_e nr7
  obtain ⟨nn8, nr9⟩ := and_e nr8
  obtain ⟨nn9, nr10⟩ := and_e nr9
  obtain ⟨nn10, nr11⟩ := and_e nr10
  obtain ⟨nn11, nr12⟩ := and_e nr11
  obtain ⟨nn12, nr13⟩ := and_e nr12
  obtain ⟨nn13, nr14⟩ := and_e nr13
  obtain ⟨nn14, nr15⟩ := and_e nr14
  obtain ⟨nn15, nr16⟩ := and_e nr15
  obtain ⟨nn16, nr17⟩ := and_e nr16
  obtain ⟨nn17, nr18⟩ := and_e nr17
  obtain ⟨nn18, nr19⟩ := and_e nr18
  obtain ⟨nn19, nr20⟩ := and_e nr19
  obtain ⟨nn20, nr21⟩ := and_e nr20
  obtain ⟨nn21, nr22⟩ := and_e nr21
  obtain ⟨nn22, nr23⟩ := and_e nr22
  obtain ⟨nn23, nr24⟩ := and_e nr23
  obtain ⟨nn24, nr25⟩ := and_e nr24
  obtain ⟨nn25, nr26⟩ := and_e nr25
  obtain ⟨nn26, nr27⟩ := and_e nr26
  obtain ⟨nn27, nr28⟩ := and_e nr27
  obtain ⟨nn28, nr29⟩ := and_e nr28
  obtain ⟨nn29, nr30⟩ := and_e nr29
  obtain ⟨nn30, nr31⟩ := and_e nr30
  obtain ⟨nn31, nr32⟩ := and_e nr31
  obtain ⟨nn32, nr33⟩ := and_e nr32
  obtain ⟨nn33, nr34⟩ := and_e nr33
  obtain ⟨nn34, nr35⟩ := and_e nr34
  obtain ⟨nn35, nr36⟩ := and_e nr35
  obtain ⟨nn36, nr37⟩ := and_e nr36
  obtain ⟨nn37, nr38⟩ := and_e nr37
  obtain ⟨nn38, nr39⟩ := and_e nr38
  obtain ⟨nn39, nr40⟩ := and_e nr39
  obtain ⟨nn40, nr41⟩ := and_e nr40
  obtain ⟨nn41, nr42⟩ := and_e nr41
  obtain ⟨nn42, nr43⟩ := and_e nr42
  obtain ⟨nn43, nr44⟩ := and_e nr43
  obtain ⟨nn44, nr45⟩ := and_e nr44
  obtain ⟨nn45, nr46⟩ := and_e nr45
  obtain ⟨nn46, nr47⟩ := and_e nr46
  obtain ⟨nn47, nr48⟩ := and_e nr47
  obtain ⟨nn48, nr49⟩ := and_e nr48
  obtain ⟨nn49, nr50⟩ := and_e nr49
  obtain ⟨nn50, nr51⟩ := and_e nr50
  obtain ⟨nn51, nr52⟩ := and_e nr51
  obtain ⟨nn52, nr53⟩ := and_e nr52
  obtain ⟨nn53, nr54⟩ := and_e nr53
  obtain ⟨nn54, nr55⟩ := and_e nr54
  obtain ⟨nn55, nr56⟩ := and_e nr55
  obtain ⟨nn56, nr57⟩ := and_e nr56
  obtain ⟨nn57, nr58⟩ := and_e nr57
  obtain ⟨nn58, nr59⟩ := and_e nr58
  obtain ⟨nn59, nr60⟩ := and_e nr59
  have nn60 := nr60
  obtain ⟨v_VENAL, ev_VENAL⟩ := exa_v nn0
  have Ev_VENAL := Exa.start ev_VENAL nn0
  have Sv_VENAL := Sta.start ev_VENAL (Or.inr ⟨(hw _ (List.mem_of_getElem? (i := 8) rfl)), (hw _ (List.mem_of_getElem? (i := 9) rfl))⟩)
  obtain ⟨v_DEADLY, ev_DEADLY⟩ := exa_v nn1
  have Ev_DEADLY := Exa.start ev_DEADLY nn1
  have Sv_DEADLY := Sta.start ev_DEADLY (Or.inr ⟨(hw _ (List.mem_of_getElem? (i := 8) rfl)), (hw _ (List.mem_of_getElem? (i := 12) rfl))⟩)
  obtain ⟨v_EAGLE_EYE, ev_EAGLE_EYE⟩ := exa_v nn2
  have Ev_EAGLE_EYE := Exa.start ev_EAGLE_EYE nn2
  have Sv_EAGLE_EYE := Sta.start ev_EAGLE_EYE (Or.inr ⟨(hw _ (List.mem_of_getElem? (i := 8) rfl)), (hw _ (List.mem_of_getElem? (i := 14) rfl))⟩)
  obtain ⟨v_EXPLOSIVE, ev_EXPLOSIVE⟩ := exa_v nn3
  have Ev_EXPLOSIVE := Exa.start ev_EXPLOSIVE nn3
  have Sv_EXPLOSIVE := Sta.start ev_EXPLOSIVE (Or.inr ⟨(hw _ (List.mem_of_getElem? (i := 8) rfl)), (hw _ (List.mem_of_getElem? (i := 16) rfl))⟩)
  obtain ⟨v_STEEL_FIST, ev_STEEL_FIST⟩ := exa_v nn4
  have Ev_STEEL_FIST := Exa.start ev_STEEL_FIST nn4
  have Sv_STEEL_FIST := Sta.start ev_STEEL_FIST (Or.inr ⟨(hw _ (List.mem_of_getElem? (i := 8) rfl)), (hw _ (List.mem_of_getElem? (i := 18) rfl))⟩)
  obtain ⟨v_TYRANT, ev_TYRANT⟩ := exa_v nn5
  have Ev_TYRANT := Exa.start ev_TYRANT nn5
  have Sv_TYRANT := Sta.start ev_TYRANT (Or.inr ⟨(hw _ (List.mem_of_getElem? (i := 8) rfl)), (hw _ (List.mem_of_getElem? (i := 20) rfl))⟩)
  obtain ⟨v_FOREMAN, ev_FOREMAN⟩ := exa_v nn6
  have Ev_FOREMAN := Exa.start ev_FOREMAN nn6
  have Sv_FOREMAN := Sta.start ev_FOREMAN (Or.inr ⟨(hw _ (List.mem_of_getElem? (i := 8) rfl)), (hw _ (List.mem_of_getElem? (i := 22) rfl))⟩)
  obtain ⟨v_GREEDY, ev_GREEDY⟩ := exa_v nn7
  have Ev_GREEDY := Exa.start ev_GREEDY nn7
  have Sv_GREEDY := Sta.start ev_GREEDY (Or.inr ⟨(hw _ (List.mem_of_getElem? (i := 8) rfl)), (hw _ (List.mem_of_getElem? (i := 24) rfl))⟩)
  obtain ⟨v_ELUSIVE, ev_ELUSIVE⟩ := exa_v nn8
  have Ev_ELUSIVE := Exa.start ev_ELUSIVE nn8
  have Sv_ELUSIVE := Sta.start ev_ELUSIVE (Or.inr ⟨(hw _ (List.mem_of_getElem? (i := 8) rfl)), (hw _ (List.mem_of_getElem? (i := 26) rfl))⟩)
  obtain ⟨v_STEALTHY, ev_STEALTHY⟩ := exa_v nn9
  have Ev_STEALTHY := Exa.start ev_STEALTHY nn9
  have Sv_STEALTHY := Sta.start ev_STEALTHY (Or.inr ⟨(hw _ (List.mem_of_getElem? (i := 8) rfl)), (hw _ (List.mem_of_getElem? (i := 28) rfl))⟩)
  obtain ⟨v_UNPREDICTABLE, ev_UNPREDICTABLE⟩ := exa_v nn10
  have Ev_UNPREDICTABLE := Exa.start ev_UNPREDICTABLE nn10
  have Sv_UNPREDICTABLE := Sta.start ev_UNPREDICTABLE (Or.inr ⟨(hw _ (List.mem_of_getElem? (i := 8) rfl)), (hw _ (List.mem_of_getElem? (i := 30) rfl))⟩)
  obtain ⟨v_BROTHER, ev_BROTHER⟩ := exa_v nn11
  have Ev_BROTHER := Exa.start ev_BROTHER nn11
  have Sv_BROTHER := Sta.start ev_BROTHER (Or.inr ⟨(hw _ (List.mem_of_getElem? (i := 8) rfl)), (hw _ (List.mem_of_getElem? (i := 32) rfl))⟩)
  obtain ⟨v_UNFATHOMABLE, ev_UNFATHOMABLE⟩ := exa_v nn12
  have Ev_UNFATHOMABLE := Exa.start ev_UNFATHOMABLE nn12
  have Sv_UNFATHOMABLE := Sta.start ev_UNFATHOMABLE (Or.inr ⟨(hw _ (List.mem_of_getElem? (i := 8) rfl)), (hw _ (List.mem_of_getElem? (i := 34) rfl))⟩)
  obtain ⟨v_FORTUNATE, ev_FORTUNATE⟩ := exa_v nn13
  have Ev_FORTUNATE := Exa.start ev_FORTUNATE nn13
  have Sv_FORTUNATE := Sta.start ev_FORTUNATE (Or.inr ⟨(hw _ (List.mem_of_getElem? (i := 8) rfl)), (hw _ (List.mem_of_getElem? (i := 36) rfl))⟩)
  obtain ⟨v_MERCHANT, ev_MERCHANT⟩ := exa_v nn14
  have Ev_MERCHANT := Exa.start ev_MERCHANT nn14
  have Sv_MERCHANT := Sta.start ev_MERCHANT (Or.inr ⟨(hw _ (List.mem_of_getElem? (i := 8) rfl)), (hw _ (List.mem_of_getElem? (i := 38) rfl))⟩)
  obtain ⟨v_SEER, ev_SEER⟩ := exa_v nn15
  have Ev_SEER := Exa.start ev_SEER nn15
  have Sv_SEER := Sta.start ev_SEER (Or.inr ⟨(hw _ (List.mem_of_getElem? (i := 8) rfl)), (hw _ (List.mem_of_getElem? (i := 40) rfl))⟩)
  obtain ⟨v_HEADHUNTER, ev_HEADHUNTER⟩ := exa_v nn16
  have Ev_HEADHUNTER := Exa.start ev_HEADHUNTER nn16
  have Sv_HEADHUNTER := Sta.start ev_HEADHUNTER (Or.inr ⟨(hw _ (List.mem_of_getElem? (i := 8) rfl)), (hw _ (List.mem_of_getElem? (i := 42) rfl))⟩)
  obtain ⟨v_WARRIOR, ev_WARRIOR⟩ := exa_v nn17
  have Ev_WARRIOR := Exa.start ev_WARRIOR nn17
  have Sv_WARRIOR := Sta.start ev_WARRIOR (Or.inr ⟨(hw _ (List.mem_of_getElem? (i := 49) rfl)), (hw _ (List.mem_of_getElem? (i := 50) rfl))⟩)
  obtain ⟨v_HUNTER, ev_HUNTER⟩ := exa_v nn18
  have Ev_HUNTER := Exa.start ev_HUNTER nn18
  have Sv_HUNTER := Sta.start ev_HUNTER (Or.inr ⟨(hw _ (List.mem_of_getElem? (i := 49) rfl)), (hw _ (List.mem_of_getElem? (i := 53) rfl))⟩)
  obtain ⟨v_MINER, ev_MINER⟩ := exa_v nn19
  have Ev_MINER := Exa.start ev_MINER nn19
  have Sv_MINER := Sta.start ev_MINER (Or.inr ⟨(hw _ (List.mem_of_getElem? (i := 49) rfl)), (hw _ (List.mem_of_getElem? (i := 55) rfl))⟩)
  obtain ⟨v_BLACKSMITH, ev_BLACKSMITH⟩ := exa_v nn20
  have Ev_BLACKSMITH := Exa.start ev_BLACKSMITH nn20
  have Sv_BLACKSMITH := Sta.start ev_BLACKSMITH (Or.inr ⟨(hw _ (List.mem_of_getElem? (i := 49) rfl)), (hw _ (List.mem_of_getElem? (i := 57) rfl))⟩)
  obtain ⟨v_EXPLORER, ev_EXPLORER⟩ := exa_v nn21
  have Ev_EXPLORER := Exa.start ev_EXPLORER nn21
  have Sv_EXPLORER := Sta.start ev_EXPLORER (Or.inr ⟨(hw _ (List.mem_of_getElem? (i := 49) rfl)), (hw _ (List.mem_of_getElem? (i := 59) rfl))⟩)
  have Fv_VENAL_ordinal := own_fld ev_VENAL (Term.int_eval _) (Or.inl ⟨_, rfl⟩) nn22
  have Fv_UNPREDICTABLE_ordinal := own_fld ev_UNPREDICTABLE (Term.int_eval _) (Or.inl ⟨_, rfl⟩) nn23
  have Fv_VENAL_dwarfClass := own_fld ev_VENAL ev_WARRIOR (Or.inr (Or.inr ⟨_, rfl⟩)) nn24
  have Fv_BLACKSMITH_ordinal := own_fld ev_BLACKSMITH (Term.int_eval _) (Or.inl ⟨_, rfl⟩) nn25
  have Fv_WARRIOR_ordinal := own_fld ev_WARRIOR (Term.int_eval _) (Or.inl ⟨_, rfl⟩) nn26
  have Fv_MERCHANT_ordinal := own_fld ev_MERCHANT (Term.int_eval _) (Or.inl ⟨_, rfl⟩) nn27
  have Fv_MERCHANT_dwarfClass := own_fld ev_MERCHANT null_at (Or.inr (Or.inl rfl)) nn28
  have Fv_FOREMAN_ordinal := own_fld ev_FOREMAN (Term.int_eval _) (Or.inl ⟨_, rfl⟩) nn29
  have Fv_FOREMAN_dwarfClass := own_fld ev_FOREMAN ev_MINER (Or.inr (Or.inr ⟨_, rfl⟩)) nn30
  have Fv_HUNTER_ordinal := own_fld ev_HUNTER (Term.int_eval _) (Or.inl ⟨_, rfl⟩) nn31
  have Fv_MINER_ordinal := own_fld ev_MINER (Term.int_eval _) (Or.inl ⟨_, rfl⟩) nn32
  have Fv_HEADHUNTER_ordinal := own_fld ev_HEADHUNTER (Term.int_eval _) (Or.inl ⟨_, rfl⟩) nn33
  have Fv_HEADHUNTER_dwarfClass := own_fld ev_HEADHUNTER null_at (Or.inr (Or.inl rfl)) nn34
  have Fv_DEADLY_ordinal := own_fld ev_DEADLY (Term.int_eval _) (Or.inl ⟨_, rfl⟩) nn35
  have Fv_DEADLY_dwarfClass := own_fld ev_DEADLY ev_WARRIOR (Or.inr (Or.inr ⟨_, rfl⟩)) nn36
  have Fv_GREEDY_ordinal := own_fld ev_GREEDY (Term.int_eval _) (Or.inl ⟨_, rfl⟩) nn37
  have Fv_GREEDY_dwarfClass := own_fld ev_GREEDY ev_MINER (Or.inr (Or.inr ⟨_, rfl⟩)) nn38
  have Fv_ELUSIVE_ordinal := own_fld ev_ELUSIVE (Term.int_eval _) (Or.inl ⟨_, rfl⟩) nn39
  have Fv_ELUSIVE_dwarfClass := own_fld ev_ELUSIVE ev_EXPLORER (Or.inr (Or.inr ⟨_, rfl⟩)) nn40
  have Fv_EXPLORER_ordinal := own_fld ev_EXPLORER (Term.int_eval _) (Or.inl ⟨_, rfl⟩) nn41
  have Fv_UNFATHOMABLE_ordinal := own_fld ev_UNFATHOMABLE (Term.int_eval _) (Or.inl ⟨_, rfl⟩) nn42
  have Fv_UNFATHOMABLE_dwarfClass := own_fld ev_UNFATHOMABLE null_at (Or.inr (Or.inl rfl)) nn43
  have Fv_EXPLOSIVE_ordinal := own_fld ev_EXPLOSIVE (Term.int_eval _) (Or.inl ⟨_, rfl⟩) nn44
  have Fv_EXPLOSIVE_dwarfClass := own_fld ev_EXPLOSIVE ev_HUNTER (Or.inr (Or.inr ⟨_, rfl⟩)) nn45
  have Fv_STEEL_FIST_ordinal := own_fld ev_STEEL_FIST (Term.int_eval _) (Or.inl ⟨_, rfl⟩) nn46
  have Fv_STEEL_FIST_dwarfClass := own_fld ev_STEEL_FIST ev_BLACKSMITH (Or.inr (Or.inr ⟨_, rfl⟩)) nn47
  have Fv_EAGLE_EYE_ordinal := own_fld ev_EAGLE_EYE (Term.int_eval _) (Or.inl ⟨_, rfl⟩) nn48
  have Fv_EAGLE_EYE_dwarfClass := own_fld ev_EAGLE_EYE ev_HUNTER (Or.inr (Or.inr ⟨_, rfl⟩)) nn49
  have Fv_FORTUNATE_ordinal := own_fld ev_FORTUNATE (Term.int_eval _) (Or.inl ⟨_, rfl⟩) nn50
  have Fv_FORTUNATE_dwarfClass := own_fld ev_FORTUNATE null_at (Or.inr (Or.inl rfl)) nn51
  have Fv_BROTHER_ordinal := own_fld ev_BROTHER (Term.int_eval _) (Or.inl ⟨_, rfl⟩) nn52
  have Fv_BROTHER_dwarfClass := own_fld ev_BROTHER null_at (Or.inr (Or.inl rfl)) nn53
  have Fv_STEALTHY_ordinal := own_fld ev_STEALTHY (Term.int_eval _) (Or.inl ⟨_, rfl⟩) nn54
  have Fv_STEALTHY_dwarfClass := own_fld ev_STEALTHY ev_EXPLORER (Or.inr (Or.inr ⟨_, rfl⟩)) nn55
  have Fv_TYRANT_ordinal := own_fld ev_TYRANT (Term.int_eval _) (Or.inl ⟨_, rfl⟩) nn56
  have Fv_TYRANT_dwarfClass := own_fld ev_TYRANT ev_BLACKSMITH (Or.inr (Or.inr ⟨_, rfl⟩)) nn57
  have Fv_SEER_ordinal := own_fld ev_SEER (Term.int_eval _) (Or.inl ⟨_, rfl⟩) nn58
  have Fv_SEER_dwarfClass := own_fld ev_SEER null_at (Or.inr (Or.inl rfl)) nn59
  have Fv_UNPREDICTABLE_dwarfClass := own_fld ev_UNPREDICTABLE null_at (Or.inr (Or.inl rfl)) nn60
  obtain ⟨n, o, h1, h2, h3, _, L, rfl, ⟨rfl, N⟩, hq⟩ := rm0 l s _ hw tables_1 i0 i1 v_VENAL v_DEADLY v_EAGLE_EYE v_EXPLOSIVE v_STEEL_FIST v_TYRANT v_FOREMAN v_GREEDY v_ELUSIVE v_STEALTHY v_UNPREDICTABLE v_BROTHER v_UNFATHOMABLE v_FORTUNATE v_MERCHANT v_SEER v_HEADHUNTER v_WARRIOR v_HUNTER v_MINER v_BLACKSMITH v_EXPLORER s.heap s.heap.size (Nat.le_refl _) Sv_VENAL Ev_VENAL Sv_DEADLY Ev_DEADLY Sv_EAGLE_EYE Ev_EAGLE_EYE Sv_EXPLOSIVE Ev_EXPLOSIVE Sv_STEEL_FIST Ev_STEEL_FIST Sv_TYRANT Ev_TYRANT Sv_FOREMAN Ev_FOREMAN Sv_GREEDY Ev_GREEDY Sv_ELUSIVE Ev_ELUSIVE Sv_STEALTHY Ev_STEALTHY Sv_UNPREDICTABLE Ev_UNPREDICTABLE Sv_BROTHER Ev_BROTHER Sv_UNFATHOMABLE Ev_UNFATHOMABLE Sv_FORTUNATE Ev_FORTUNATE Sv_MERCHANT Ev_MERCHANT Sv_SEER Ev_SEER Sv_HEADHUNTER Ev_HEADHUNTER Sv_WARRIOR Ev_WARRIOR Sv_HUNTER Ev_HUNTER Sv_MINER Ev_MINER Sv_BLACKSMITH Ev_BLACKSMITH Sv_EXPLORER Ev_EXPLORER Fv_VENAL_ordinal Fv_UNPREDICTABLE_ordinal Fv_VENAL_dwarfClass Fv_BLACKSMITH_ordinal Fv_WARRIOR_ordinal Fv_MERCHANT_ordinal Fv_MERCHANT_dwarfClass Fv_FOREMAN_ordinal Fv_FOREMAN_dwarfClass Fv_HUNTER_ordinal Fv_MINER_ordinal Fv_HEADHUNTER_ordinal Fv_HEADHUNTER_dwarfClass Fv_DEADLY_ordinal Fv_DEADLY_dwarfClass Fv_GREEDY_ordinal Fv_GREEDY_dwarfClass Fv_ELUSIVE_ordinal Fv_ELUSIVE_dwarfClass Fv_EXPLORER_ordinal Fv_UNFATHOMABLE_ordinal Fv_UNFATHOMABLE_dwarfClass Fv_EXPLOSIVE_ordinal Fv_EXPLOSIVE_dwarfClass Fv_STEEL_FIST_ordinal Fv_STEEL_FIST_dwarfClass Fv_EAGLE_EYE_ordinal Fv_EAGLE_EYE_dwarfClass Fv_FORTUNATE_ordinal Fv_FORTUNATE_dwarfClass Fv_BROTHER_ordinal Fv_BROTHER_dwarfClass Fv_STEALTHY_ordinal Fv_STEALTHY_dwarfClass Fv_TYRANT_ordinal Fv_TYRANT_dwarfClass Fv_SEER_ordinal Fv_SEER_dwarfClass Fv_UNPREDICTABLE_dwarfClass p e ha hc hk s m _ below hf ((Spec.applies_iff_loose hf).mp happ).1 ⟨rfl, State.Warmed39.refl s, rfl⟩ trivial
  refine ⟨n, _, h1, h2, h3, hpost _ _ _ _ _ _ ⟨Cond.after_iff.mpr rfl, Cond.after_iff.mpr (eq_i res_at (Term.int_eval (1)) rfl), trivial⟩ ⟨hq.1, hq.2.1, (hq.2.2.sift fun y hy => Or.inr (N y hy)).mono (by decide) (by decide)⟩⟩
theorem main_1_1 : Claimed_1_1 := comes_1 fun _ _ _ _ _ _ h hF => ⟨h.1, hF⟩
theorem main_1_2 : Claimed_1_2 := comes_1 fun _ _ _ _ _ _ h hF => ⟨h.2.1, hF⟩
end Jvm.Pilot.@@N@@
namespace Jvm.Pilot.@@N@@
open Jvm Jvm.ClassFile Sem Op Lib Jvm.Free Jvm.Stand Jvm.Pilot.@@N@@.Jvm.D
/-! MADE BY PROGRAM (witnessworld.py) out of the Statement's table words and the real class files: 17 classes; the members and pool entries that the words name. The judged class is class 1, her method 4. -/
namespace start1
open Jvm.ClassFile
def u (s : String) : CpInfo := .utf8 (stringToUtf16 s)
/-- a pool by its gaps: so many unusable entries, then the entry; so many at the end -/
def gap : Nat → List CpInfo → List CpInfo
  | 0, r => r
  | n + 1, r => .unusable :: gap n r
def poolList (es : List (Nat × CpInfo)) (last : Nat) : List CpInfo := es.foldr (fun e r => gap e.1 (e.2 :: r)) (gap last [])
def pool (es : List (Nat × CpInfo)) (last : Nat) : Array CpInfo := ⟨poolList es last⟩
def fileOf (pool : Array CpInfo) (this : Nat) (attrs : Array Attribute := #[]) (ms : Array MethodInfo := #[]) (fl : Nat := 33) (sup : Nat := 0) (ifs : Array Nat := #[]) (fds : Array FieldInfo := #[]) : ClassFile where
  minorVersion := 0
  majorVersion := 65
  constantPool := pool
  accessFlags := fl
  thisClass := this
  superClass := sup
  interfaces := ifs
  fields := fds
  methods := ms
  attributes := attrs
def plain (name : String) (sup : Option ClassId) : Class where
  name := name
  kind := .ordinary
  loader := none
  accessFlags := 33
  super := sup
  interfaces := #[]
  cf := none
  fields := #[]
  methods := #[]
  instanceTypes := #[]
  staticTypes := #[]
  resolved := #[]
  callSites := []
  init := .initialized
  statics := none
  mirror := none

def pool0 : Array CpInfo := pool [(5, u "<init>"), (0, u "()V"), (1, .class_ 10), (1, u "java/lang/Object")] 113

def k0m0 : Method := { name := "<init>", desc := "()V", sig := { parameters := [], returnType := none }, accessFlags := 1, code := none }
/-- java/lang/Object -/
def k0 : Class := { plain "java/lang/Object" none with
  accessFlags := 33
  interfaces := #[]
  cf := some (fileOf pool0 8 #[] #[{ accessFlags := 1, nameIndex := 5, descriptorIndex := 6, attributes := #[] }] 33 0 #[] #[])
  fields := #[]
  methods := #[k0m0]
  instanceTypes := #[]
  staticTypes := #[]
  resolved := Array.replicate 124 none
  statics := none }

def pool1 : Array CpInfo := pool [(2, .class_ 4), (1, u "java/lang/Object"), (0, u "<init>"), (0, u "()V"), (0, .class_ 8), (0, u "com/example/runehall/runehall/tavern/Hero"), (0, .fieldref 7 10), (0, .nameAndType 11 12), (0, u "VENAL"), (0, u "Lcom/example/runehall/runehall/tavern/Hero;"), (0, .fieldref 7 14), (0, .nameAndType 15 12), (0, u "DEADLY"), (0, .fieldref 7 17), (0, .nameAndType 18 12), (0, u "EAGLE_EYE"), (0, .fieldref 7 20), (0, .nameAndType 21 12), (0, u "EXPLOSIVE"), (0, .fieldref 7 23), (0, .nameAndType 24 12), (0, u "STEEL_FIST"), (0, .fieldref 7 26), (0, .nameAndType 27 12), (0, u "TYRANT"), (0, .fieldref 7 29), (0, .nameAndType 30 12), (0, u "FOREMAN"), (0, .fieldref 7 32), (0, .nameAndType 33 12), (0, u "GREEDY"), (0, .fieldref 7 35), (0, .nameAndType 36 12), (0, u "ELUSIVE"), (0, .fieldref 7 38), (0, .nameAndType 39 12), (0, u "STEALTHY"), (0, .fieldref 7 41), (0, .nameAndType 42 12), (0, u "UNPREDICTABLE"), (0, .fieldref 7 44), (0, .nameAndType 45 12), (0, u "BROTHER"), (0, .fieldref 7 47), (0, .nameAndType 48 12), (0, u "UNFATHOMABLE"), (0, .fieldref 7 50), (0, .nameAndType 51 12), (0, u "FORTUNATE"), (0, .fieldref 7 53), (0, .nameAndType 54 12), (0, u "MERCHANT"), (0, .fieldref 7 56), (0, .nameAndType 57 12), (0, u "SEER"), (0, .fieldref 7 59), (0, .nameAndType 60 12), (0, u "HEADHUNTER"), (0, .class_ 62), (0, u "com/example/runehall/runehall/tavern/DwarfClass"), (0, .fieldref 61 64), (0, .nameAndType 65 66), (0, u "WARRIOR"), (0, u "Lcom/example/runehall/runehall/tavern/DwarfClass;"), (0, .fieldref 61 68), (0, .nameAndType 69 66), (0, u "HUNTER"), (0, .fieldref 61 71), (0, .nameAndType 72 66), (0, u "MINER"), (0, .fieldref 61 74), (0, .nameAndType 75 66), (0, u "BLACKSMITH"), (0, .fieldref 61 77), (0, .nameAndType 78 66), (0, u "EXPLORER"), (0, .integer 2147483647), (0, .methodref 81 82), (0, .class_ 83), (0, .nameAndType 84 85), (0, u "com/example/runehall/runehall/tavern/HeroMayEndInPinLaw"), (0, u "hero"), (0, u "(I)Lcom/example/runehall/runehall/tavern/Hero;"), (0, .methodref 81 87), (0, .nameAndType 88 89), (0, u "column"), (0, u "(I)Lcom/example/runehall/runehall/tavern/DwarfClass;"), (0, .methodref 7 91), (0, .nameAndType 92 93), (0, u "mayEndIn"), (0, u "(Lcom/example/runehall/runehall/tavern/DwarfClass;)Z"), (0, .methodref 81 95), (0, .nameAndType 96 97), (0, u "expected"), (0, u "(II)Z"), (3, u "law")] 2

def k1m0 : Method := { name := "<init>", desc := "()V", sig := { parameters := [], returnType := none }, accessFlags := 2, code := none }
def k1c1 : Code := { maxStack := 4, maxLocals := 2, code := method_2_code, exceptionTable := #[], attributes := #[] }
def k1m1 : Method := { name := "hero", desc := "(I)Lcom/example/runehall/runehall/tavern/Hero;", sig := { parameters := [.int], returnType := some (.object "com/example/runehall/runehall/tavern/Hero") }, accessFlags := 10, code := some k1c1 }
def k1c2 : Code := { maxStack := 4, maxLocals := 2, code := method_3_code, exceptionTable := #[], attributes := #[] }
def k1m2 : Method := { name := "column", desc := "(I)Lcom/example/runehall/runehall/tavern/DwarfClass;", sig := { parameters := [.int], returnType := some (.object "com/example/runehall/runehall/tavern/DwarfClass") }, accessFlags := 10, code := some k1c2 }
def k1c3 : Code := { maxStack := 2, maxLocals := 3, code := method_4_code, exceptionTable := #[], attributes := #[] }
def k1m3 : Method := { name := "expected", desc := "(II)Z", sig := { parameters := [.int, .int], returnType := some .boolean }, accessFlags := 10, code := some k1c3 }
def k1c4 : Code := { maxStack := 3, maxLocals := 7, code := code, exceptionTable := #[], attributes := #[] }
def k1m4 : Method := { name := "law", desc := "(II)Z", sig := { parameters := [.int, .int], returnType := some .boolean }, accessFlags := 9, code := some k1c4 }
/-- com/example/runehall/runehall/tavern/HeroMayEndInPinLaw -/
def k1 : Class := { plain "com/example/runehall/runehall/tavern/HeroMayEndInPinLaw" (some 0) with
  accessFlags := 49
  interfaces := #[]
  cf := some (fileOf pool1 81 #[] #[{ accessFlags := 2, nameIndex := 5, descriptorIndex := 6, attributes := #[] }, { accessFlags := 10, nameIndex := 84, descriptorIndex := 85, attributes := #[] }, { accessFlags := 10, nameIndex := 88, descriptorIndex := 89, attributes := #[] }, { accessFlags := 10, nameIndex := 96, descriptorIndex := 97, attributes := #[] }, { accessFlags := 9, nameIndex := 101, descriptorIndex := 97, attributes := #[] }] 49 2 #[] #[])
  fields := #[]
  methods := #[k1m0, k1m1, k1m2, k1m3, k1m4]
  instanceTypes := #[]
  staticTypes := #[]
  resolved := Array.replicate 104 none
  statics := none }

def pool2 : Array CpInfo := pool [(1, .class_ 2), (0, u "java/lang/constant/Constable"), (0, .class_ 4), (0, u "java/lang/Object")] 6

/-- java/lang/constant/Constable -/
def k2 : Class := { plain "java/lang/constant/Constable" (some 0) with
  accessFlags := 1537
  interfaces := #[]
  cf := some (fileOf pool2 1 #[] #[] 1537 3 #[] #[])
  fields := #[]
  methods := #[]
  instanceTypes := #[]
  staticTypes := #[]
  resolved := Array.replicate 11 none
  statics := none }

def pool3 : Array CpInfo := pool [(1, .class_ 2), (0, u "java/lang/Comparable"), (0, .class_ 4), (0, u "java/lang/Object")] 7

/-- java/lang/Comparable -/
def k3 : Class := { plain "java/lang/Comparable" (some 0) with
  accessFlags := 1537
  interfaces := #[]
  cf := some (fileOf pool3 1 #[] #[] 1537 3 #[] #[])
  fields := #[]
  methods := #[]
  instanceTypes := #[]
  staticTypes := #[]
  resolved := Array.replicate 12 none
  statics := none }

def pool4 : Array CpInfo := pool [(1, .class_ 2), (0, u "java/io/Serializable"), (0, .class_ 4), (0, u "java/lang/Object")] 2

/-- java/io/Serializable -/
def k4 : Class := { plain "java/io/Serializable" (some 0) with
  accessFlags := 1537
  interfaces := #[]
  cf := some (fileOf pool4 1 #[] #[] 1537 3 #[] #[])
  fields := #[]
  methods := #[]
  instanceTypes := #[]
  staticTypes := #[]
  resolved := Array.replicate 7 none
  statics := none }

def pool5 : Array CpInfo := pool [(2, .class_ 4), (1, u "java/lang/Enum"), (0, u "name"), (0, u "Ljava/lang/String;"), (2, u "ordinal"), (0, u "I"), (1, .class_ 14), (1, u "java/lang/Object"), (4, u "hash"), (86, .class_ 108), (1, u "java/lang/Enum$EnumDesc"), (2, .class_ 112), (0, u "java/lang/constant/Constable"), (0, .class_ 114), (0, u "java/lang/Comparable"), (0, .class_ 116), (0, u "java/io/Serializable")] 87

/-- java/lang/Enum -/
def k5 : Class := { plain "java/lang/Enum" (some 0) with
  accessFlags := 1057
  interfaces := #[2, 3, 4]
  cf := some (fileOf pool5 2 #[.nestMembers #[106]] #[] 1057 12 #[111, 113, 115] #[{ accessFlags := 18, nameIndex := 5, descriptorIndex := 6, attributes := #[] }, { accessFlags := 18, nameIndex := 9, descriptorIndex := 10, attributes := #[] }, { accessFlags := 2, nameIndex := 19, descriptorIndex := 10, attributes := #[] }])
  fields := #[{ name := "name", type := (.object "java/lang/String"), accessFlags := 18, slot := 0, constantValue := 0 }, { name := "ordinal", type := .int, accessFlags := 18, slot := 1, constantValue := 0 }, { name := "hash", type := .int, accessFlags := 2, slot := 2, constantValue := 0 }]
  methods := #[]
  instanceTypes := #[(.object "java/lang/String"), .int, .int]
  staticTypes := #[]
  resolved := Array.replicate 204 none
  statics := none }

def pool6 : Array CpInfo := pool [(17, .class_ 18), (0, u "com/example/runehall/runehall/tavern/ArmyCard"), (10, .class_ 30), (0, u "java/lang/Object")] 19

/-- com/example/runehall/runehall/tavern/ArmyCard -/
def k6 : Class := { plain "com/example/runehall/runehall/tavern/ArmyCard" (some 0) with
  accessFlags := 1537
  interfaces := #[]
  cf := some (fileOf pool6 17 #[] #[] 1537 29 #[] #[])
  fields := #[]
  methods := #[]
  instanceTypes := #[]
  staticTypes := #[]
  resolved := Array.replicate 50 none
  statics := none }

def pool7 : Array CpInfo := pool [(2, .class_ 4), (1, u "com/example/runehall/runehall/tavern/NamedCard"), (31, .class_ 37), (0, u "java/lang/Object"), (0, .class_ 39), (0, u "com/example/runehall/runehall/tavern/ArmyCard")] 17

/-- com/example/runehall/runehall/tavern/NamedCard -/
def k7 : Class := { plain "com/example/runehall/runehall/tavern/NamedCard" (some 0) with
  accessFlags := 1537
  interfaces := #[6]
  cf := some (fileOf pool7 2 #[] #[] 1537 36 #[38] #[])
  fields := #[]
  methods := #[]
  instanceTypes := #[]
  staticTypes := #[]
  resolved := Array.replicate 57 none
  statics := none }

def pool8 : Array CpInfo := pool [(1, .class_ 2), (0, u "com/example/runehall/runehall/tavern/Hero"), (2, u "VENAL"), (0, u "Lcom/example/runehall/runehall/tavern/Hero;"), (2, u "DEADLY"), (2, u "EAGLE_EYE"), (2, u "EXPLOSIVE"), (2, u "STEEL_FIST"), (2, u "TYRANT"), (2, u "FOREMAN"), (2, u "GREEDY"), (2, u "ELUSIVE"), (2, u "STEALTHY"), (0, .fieldref 1 35), (0, .nameAndType 36 6), (0, u "UNPREDICTABLE"), (2, u "BROTHER"), (2, u "UNFATHOMABLE"), (2, u "FORTUNATE"), (2, u "MERCHANT"), (2, u "SEER"), (2, u "HEADHUNTER"), (2, u "$VALUES"), (0, u "[Lcom/example/runehall/runehall/tavern/Hero;"), (6, .class_ 67), (1, u "java/lang/Enum"), (8, u "key"), (0, u "Ljava/lang/String;"), (0, .fieldref 1 79), (0, .nameAndType 80 81), (0, u "dwarfClass"), (0, u "Lcom/example/runehall/runehall/tavern/DwarfClass;"), (2, u "ranks"), (0, u "I"), (2, u "points"), (2, u "commandValue"), (5, u "BROTHERS_VALUE"), (0, u "[I"), (10, .class_ 111), (1, u "com/example/runehall/runehall/tavern/Hero$1"), (109, .class_ 222), (0, u "com/example/runehall/runehall/tavern/NamedCard"), (0, u "STEALTHY_POINTS_PER_RANK"), (14, u "mayEndIn"), (0, u "(Lcom/example/runehall/runehall/tavern/DwarfClass;)Z")] 12

def k8c0 : Code := { maxStack := 2, maxLocals := 2, code := prog_17_method_10_code, exceptionTable := #[], attributes := #[] }
def k8m0 : Method := { name := "mayEndIn", desc := "(Lcom/example/runehall/runehall/tavern/DwarfClass;)Z", sig := { parameters := [(.object "com/example/runehall/runehall/tavern/DwarfClass")], returnType := some .boolean }, accessFlags := 1, code := some k8c0 }
/-- com/example/runehall/runehall/tavern/Hero -/
def k8 : Class := { plain "com/example/runehall/runehall/tavern/Hero" (some 5) with
  accessFlags := 16433
  interfaces := #[7]
  cf := some (fileOf pool8 1 #[.nestMembers #[109]] #[{ accessFlags := 1, nameIndex := 238, descriptorIndex := 239, attributes := #[] }] 16433 65 #[221] #[{ accessFlags := 16409, nameIndex := 5, descriptorIndex := 6, attributes := #[] }, { accessFlags := 16409, nameIndex := 9, descriptorIndex := 6, attributes := #[] }, { accessFlags := 16409, nameIndex := 12, descriptorIndex := 6, attributes := #[] }, { accessFlags := 16409, nameIndex := 15, descriptorIndex := 6, attributes := #[] }, { accessFlags := 16409, nameIndex := 18, descriptorIndex := 6, attributes := #[] }, { accessFlags := 16409, nameIndex := 21, descriptorIndex := 6, attributes := #[] }, { accessFlags := 16409, nameIndex := 24, descriptorIndex := 6, attributes := #[] }, { accessFlags := 16409, nameIndex := 27, descriptorIndex := 6, attributes := #[] }, { accessFlags := 16409, nameIndex := 30, descriptorIndex := 6, attributes := #[] }, { accessFlags := 16409, nameIndex := 33, descriptorIndex := 6, attributes := #[] }, { accessFlags := 16409, nameIndex := 36, descriptorIndex := 6, attributes := #[] }, { accessFlags := 16409, nameIndex := 39, descriptorIndex := 6, attributes := #[] }, { accessFlags := 16409, nameIndex := 42, descriptorIndex := 6, attributes := #[] }, { accessFlags := 16409, nameIndex := 45, descriptorIndex := 6, attributes := #[] }, { accessFlags := 16409, nameIndex := 48, descriptorIndex := 6, attributes := #[] }, { accessFlags := 16409, nameIndex := 51, descriptorIndex := 6, attributes := #[] }, { accessFlags := 16409, nameIndex := 54, descriptorIndex := 6, attributes := #[] }, { accessFlags := 26, nameIndex := 97, descriptorIndex := 98, attributes := #[] }, { accessFlags := 26, nameIndex := 223, descriptorIndex := 85, attributes := #[] }, { accessFlags := 18, nameIndex := 76, descriptorIndex := 77, attributes := #[] }, { accessFlags := 18, nameIndex := 80, descriptorIndex := 81, attributes := #[] }, { accessFlags := 18, nameIndex := 84, descriptorIndex := 85, attributes := #[] }, { accessFlags := 18, nameIndex := 88, descriptorIndex := 85, attributes := #[] }, { accessFlags := 18, nameIndex := 91, descriptorIndex := 85, attributes := #[] }, { accessFlags := 4122, nameIndex := 57, descriptorIndex := 58, attributes := #[] }])
  fields := #[{ name := "VENAL", type := (.object "com/example/runehall/runehall/tavern/Hero"), accessFlags := 16409, slot := 0, constantValue := 0 }, { name := "DEADLY", type := (.object "com/example/runehall/runehall/tavern/Hero"), accessFlags := 16409, slot := 1, constantValue := 0 }, { name := "EAGLE_EYE", type := (.object "com/example/runehall/runehall/tavern/Hero"), accessFlags := 16409, slot := 2, constantValue := 0 }, { name := "EXPLOSIVE", type := (.object "com/example/runehall/runehall/tavern/Hero"), accessFlags := 16409, slot := 3, constantValue := 0 }, { name := "STEEL_FIST", type := (.object "com/example/runehall/runehall/tavern/Hero"), accessFlags := 16409, slot := 4, constantValue := 0 }, { name := "TYRANT", type := (.object "com/example/runehall/runehall/tavern/Hero"), accessFlags := 16409, slot := 5, constantValue := 0 }, { name := "FOREMAN", type := (.object "com/example/runehall/runehall/tavern/Hero"), accessFlags := 16409, slot := 6, constantValue := 0 }, { name := "GREEDY", type := (.object "com/example/runehall/runehall/tavern/Hero"), accessFlags := 16409, slot := 7, constantValue := 0 }, { name := "ELUSIVE", type := (.object "com/example/runehall/runehall/tavern/Hero"), accessFlags := 16409, slot := 8, constantValue := 0 }, { name := "STEALTHY", type := (.object "com/example/runehall/runehall/tavern/Hero"), accessFlags := 16409, slot := 9, constantValue := 0 }, { name := "UNPREDICTABLE", type := (.object "com/example/runehall/runehall/tavern/Hero"), accessFlags := 16409, slot := 10, constantValue := 0 }, { name := "BROTHER", type := (.object "com/example/runehall/runehall/tavern/Hero"), accessFlags := 16409, slot := 11, constantValue := 0 }, { name := "UNFATHOMABLE", type := (.object "com/example/runehall/runehall/tavern/Hero"), accessFlags := 16409, slot := 12, constantValue := 0 }, { name := "FORTUNATE", type := (.object "com/example/runehall/runehall/tavern/Hero"), accessFlags := 16409, slot := 13, constantValue := 0 }, { name := "MERCHANT", type := (.object "com/example/runehall/runehall/tavern/Hero"), accessFlags := 16409, slot := 14, constantValue := 0 }, { name := "SEER", type := (.object "com/example/runehall/runehall/tavern/Hero"), accessFlags := 16409, slot := 15, constantValue := 0 }, { name := "HEADHUNTER", type := (.object "com/example/runehall/runehall/tavern/Hero"), accessFlags := 16409, slot := 16, constantValue := 0 }, { name := "BROTHERS_VALUE", type := (.array .int), accessFlags := 26, slot := 17, constantValue := 0 }, { name := "STEALTHY_POINTS_PER_RANK", type := .int, accessFlags := 26, slot := 18, constantValue := 0 }, { name := "key", type := (.object "java/lang/String"), accessFlags := 18, slot := 3, constantValue := 0 }, { name := "dwarfClass", type := (.object "com/example/runehall/runehall/tavern/DwarfClass"), accessFlags := 18, slot := 4, constantValue := 0 }, { name := "ranks", type := .int, accessFlags := 18, slot := 5, constantValue := 0 }, { name := "points", type := .int, accessFlags := 18, slot := 6, constantValue := 0 }, { name := "commandValue", type := .int, accessFlags := 18, slot := 7, constantValue := 0 }, { name := "$VALUES", type := (.array (.object "com/example/runehall/runehall/tavern/Hero")), accessFlags := 4122, slot := 19, constantValue := 0 }]
  methods := #[k8m0]
  instanceTypes := #[(.object "java/lang/String"), .int, .int, (.object "java/lang/String"), (.object "com/example/runehall/runehall/tavern/DwarfClass"), .int, .int, .int]
  staticTypes := #[(.object "com/example/runehall/runehall/tavern/Hero"), (.object "com/example/runehall/runehall/tavern/Hero"), (.object "com/example/runehall/runehall/tavern/Hero"), (.object "com/example/runehall/runehall/tavern/Hero"), (.object "com/example/runehall/runehall/tavern/Hero"), (.object "com/example/runehall/runehall/tavern/Hero"), (.object "com/example/runehall/runehall/tavern/Hero"), (.object "com/example/runehall/runehall/tavern/Hero"), (.object "com/example/runehall/runehall/tavern/Hero"), (.object "com/example/runehall/runehall/tavern/Hero"), (.object "com/example/runehall/runehall/tavern/Hero"), (.object "com/example/runehall/runehall/tavern/Hero"), (.object "com/example/runehall/runehall/tavern/Hero"), (.object "com/example/runehall/runehall/tavern/Hero"), (.object "com/example/runehall/runehall/tavern/Hero"), (.object "com/example/runehall/runehall/tavern/Hero"), (.object "com/example/runehall/runehall/tavern/Hero"), (.array .int), .int, (.array (.object "com/example/runehall/runehall/tavern/Hero"))]
  resolved := Array.replicate 252 none
  statics := some 0 }

def pool9 : Array CpInfo := pool [(1, .class_ 2), (0, u "com/example/runehall/runehall/tavern/DwarfClass"), (2, u "WARRIOR"), (0, u "Lcom/example/runehall/runehall/tavern/DwarfClass;"), (2, u "HUNTER"), (2, u "MINER"), (2, u "BLACKSMITH"), (2, u "EXPLORER"), (2, u "$VALUES"), (0, u "[Lcom/example/runehall/runehall/tavern/DwarfClass;"), (6, .class_ 31), (1, u "java/lang/Enum"), (8, u "key"), (0, u "Ljava/lang/String;"), (2, u "cardLetter"), (0, u "C")] 108

/-- com/example/runehall/runehall/tavern/DwarfClass -/
def k9 : Class := { plain "com/example/runehall/runehall/tavern/DwarfClass" (some 5) with
  accessFlags := 16433
  interfaces := #[]
  cf := some (fileOf pool9 1 #[] #[] 16433 29 #[] #[{ accessFlags := 16409, nameIndex := 5, descriptorIndex := 6, attributes := #[] }, { accessFlags := 16409, nameIndex := 9, descriptorIndex := 6, attributes := #[] }, { accessFlags := 16409, nameIndex := 12, descriptorIndex := 6, attributes := #[] }, { accessFlags := 16409, nameIndex := 15, descriptorIndex := 6, attributes := #[] }, { accessFlags := 16409, nameIndex := 18, descriptorIndex := 6, attributes := #[] }, { accessFlags := 18, nameIndex := 40, descriptorIndex := 41, attributes := #[] }, { accessFlags := 18, nameIndex := 44, descriptorIndex := 45, attributes := #[] }, { accessFlags := 4122, nameIndex := 21, descriptorIndex := 22, attributes := #[] }])
  fields := #[{ name := "WARRIOR", type := (.object "com/example/runehall/runehall/tavern/DwarfClass"), accessFlags := 16409, slot := 0, constantValue := 0 }, { name := "HUNTER", type := (.object "com/example/runehall/runehall/tavern/DwarfClass"), accessFlags := 16409, slot := 1, constantValue := 0 }, { name := "MINER", type := (.object "com/example/runehall/runehall/tavern/DwarfClass"), accessFlags := 16409, slot := 2, constantValue := 0 }, { name := "BLACKSMITH", type := (.object "com/example/runehall/runehall/tavern/DwarfClass"), accessFlags := 16409, slot := 3, constantValue := 0 }, { name := "EXPLORER", type := (.object "com/example/runehall/runehall/tavern/DwarfClass"), accessFlags := 16409, slot := 4, constantValue := 0 }, { name := "key", type := (.object "java/lang/String"), accessFlags := 18, slot := 3, constantValue := 0 }, { name := "cardLetter", type := .char, accessFlags := 18, slot := 4, constantValue := 0 }, { name := "$VALUES", type := (.array (.object "com/example/runehall/runehall/tavern/DwarfClass")), accessFlags := 4122, slot := 5, constantValue := 0 }]
  methods := #[]
  instanceTypes := #[(.object "java/lang/String"), .int, .int, (.object "java/lang/String"), .char]
  staticTypes := #[(.object "com/example/runehall/runehall/tavern/DwarfClass"), (.object "com/example/runehall/runehall/tavern/DwarfClass"), (.object "com/example/runehall/runehall/tavern/DwarfClass"), (.object "com/example/runehall/runehall/tavern/DwarfClass"), (.object "com/example/runehall/runehall/tavern/DwarfClass"), (.array (.object "com/example/runehall/runehall/tavern/DwarfClass"))]
  resolved := Array.replicate 154 none
  statics := some 1 }

def pool10 : Array CpInfo := pool [(1, u "java/lang/Cloneable"), (0, .class_ 1), (0, u "java/lang/Object"), (0, .class_ 3)] 3

/-- java/lang/Cloneable -/
def k10 : Class := { plain "java/lang/Cloneable" (some 0) with
  accessFlags := 1537
  interfaces := #[]
  cf := some (fileOf pool10 2 #[] #[] 1537 4 #[] #[])
  fields := #[]
  methods := #[]
  instanceTypes := #[]
  staticTypes := #[]
  resolved := Array.replicate 8 none
  statics := none }

/-- the primitive byte -/
def k11 : Class := { plain "byte" none with kind := .primitive 'B', accessFlags := 0x411 }
/-- [B -/
def k12 : Class := { plain "[B" (some 0) with kind := .array 11 .byte, interfaces := #[10, 4], accessFlags := 1041 }

/-- the primitive int -/
def k13 : Class := { plain "int" none with kind := .primitive 'I', accessFlags := 0x411 }
/-- [I -/
def k14 : Class := { plain "[I" (some 0) with kind := .array 13 .int, interfaces := #[10, 4], accessFlags := 1041 }

/-- [Lcom/example/runehall/runehall/tavern/DwarfClass; -/
def k15 : Class := { plain "[Lcom/example/runehall/runehall/tavern/DwarfClass;" (some 0) with kind := .array 9 (.object "com/example/runehall/runehall/tavern/DwarfClass"), interfaces := #[10, 4], accessFlags := 1041 }

/-- [Lcom/example/runehall/runehall/tavern/Hero; -/
def k16 : Class := { plain "[Lcom/example/runehall/runehall/tavern/Hero;" (some 0) with kind := .array 8 (.object "com/example/runehall/runehall/tavern/Hero"), interfaces := #[10, 4], accessFlags := 1041 }

def heap : Heap := #[{ cls := 8, slots := #[.ref 2, .ref 3, .ref 4, .ref 5, .ref 6, .ref 7, .ref 8, .ref 9, .ref 10, .ref 11, .ref 12, .ref 13, .ref 14, .ref 15, .ref 16, .ref 17, .ref 18, .null, .int 0, .null], vm := .statics 8 },
  { cls := 9, slots := #[.ref 19, .ref 20, .ref 21, .ref 22, .ref 23, .null], vm := .statics 9 },
  { cls := 8, slots := #[.null, .int 0, .int 0, .null, .ref 19, .int 0, .int 0, .int 0], vm := .none },
  { cls := 8, slots := #[.null, .int 1, .int 0, .null, .ref 19, .int 0, .int 0, .int 0], vm := .none },
  { cls := 8, slots := #[.null, .int 2, .int 0, .null, .ref 20, .int 0, .int 0, .int 0], vm := .none },
  { cls := 8, slots := #[.null, .int 3, .int 0, .null, .ref 20, .int 0, .int 0, .int 0], vm := .none },
  { cls := 8, slots := #[.null, .int 4, .int 0, .null, .ref 22, .int 0, .int 0, .int 0], vm := .none },
  { cls := 8, slots := #[.null, .int 5, .int 0, .null, .ref 22, .int 0, .int 0, .int 0], vm := .none },
  { cls := 8, slots := #[.null, .int 6, .int 0, .null, .ref 21, .int 0, .int 0, .int 0], vm := .none },
  { cls := 8, slots := #[.null, .int 7, .int 0, .null, .ref 21, .int 0, .int 0, .int 0], vm := .none },
  { cls := 8, slots := #[.null, .int 8, .int 0, .null, .ref 23, .int 0, .int 0, .int 0], vm := .none },
  { cls := 8, slots := #[.null, .int 9, .int 0, .null, .ref 23, .int 0, .int 0, .int 0], vm := .none },
  { cls := 8, slots := #[.null, .int 10, .int 0, .null, .null, .int 0, .int 0, .int 0], vm := .none },
  { cls := 8, slots := #[.null, .int 11, .int 0, .null, .null, .int 0, .int 0, .int 0], vm := .none },
  { cls := 8, slots := #[.null, .int 12, .int 0, .null, .null, .int 0, .int 0, .int 0], vm := .none },
  { cls := 8, slots := #[.null, .int 13, .int 0, .null, .null, .int 0, .int 0, .int 0], vm := .none },
  { cls := 8, slots := #[.null, .int 14, .int 0, .null, .null, .int 0, .int 0, .int 0], vm := .none },
  { cls := 8, slots := #[.null, .int 15, .int 0, .null, .null, .int 0, .int 0, .int 0], vm := .none },
  { cls := 8, slots := #[.null, .int 16, .int 0, .null, .null, .int 0, .int 0, .int 0], vm := .none },
  { cls := 9, slots := #[.null, .int 0, .int 0, .null, .int 0], vm := .none },
  { cls := 9, slots := #[.null, .int 1, .int 0, .null, .int 0], vm := .none },
  { cls := 9, slots := #[.null, .int 2, .int 0, .null, .int 0], vm := .none },
  { cls := 9, slots := #[.null, .int 3, .int 0, .null, .int 0], vm := .none },
  { cls := 9, slots := #[.null, .int 4, .int 0, .null, .int 0], vm := .none }]
def classes : Array Class := #[k0, k1, k2, k3, k4, k5, k6, k7, k8, k9, k10, k11, k12, k13, k14, k15, k16]
def interned : List (Array UInt16 × Addr) := []
def slotsUsed : Nat := 187
def theMethod : MethodId := ⟨1, 4⟩
def args0 : Array Value := #[.int 77, .int 99]
def aboutOver (below : List Frame) : State where
  vm := { classes := classes, interned := interned.toArray }
  heap := heap
  slotsUsed := slotsUsed
  threads := #[{ frames := .invoking theMethod args0 :: below }]
def below0 : List Frame := [.native { method := ⟨0, 0⟩, args := #[] }]
def about1 : State := aboutOver below0
def p0 : Program := .bare "" "" ""
def e0 : Env := launch0.env 0 0 0
theorem w_frames : about1.frames = Frame.invoking theMethod args0 :: below0 := rfl
set_option maxRecDepth 65536 in
theorem w_args : argsFit about1.vm theMethod args0 = true := by decide +kernel
set_option maxRecDepth 65536 in
theorem w_heap : heapFits about1 = true := by decide +kernel
set_option maxRecDepth 65536 in
theorem w_runnable : about1.curStatus? = some .runnable := by decide +kernel
set_option maxRecDepth 65536 in
theorem w_alone : about1.alone = true := by decide +kernel
set_option maxRecDepth 65536 in
theorem w_named : about1.methodNamed? x = some theMethod := by decide +kernel
set_option maxRecDepth 65536 in
theorem w_hears : about1.hears theMethod below0 = true := by decide +kernel
set_option maxRecDepth 65536 in
theorem w_ripe : about1.ripe theMethod args0 below0 = true := by decide +kernel
theorem w_running : about1.status = .running := rfl
set_option maxRecDepth 65536 in
theorem w_room : about1.hasRoom e0.platform room_1 = true :=
  launch0.hasRoom_least _ room_1 (by decide +kernel) (by decide +kernel) (by decide +kernel) (by decide +kernel) (by decide +kernel) (by decide +kernel)
theorem allAtoms_all (ts : List Jvm.Cond) (a : Array Jvm.Value) (st : Jvm.State) : (allAtoms ts).before a st = ts.all (fun c => c.before a st) := by
  induction ts with
  | nil => rfl
  | cons c t ih =>
    show (Jvm.Cond.and c (allAtoms t)).before a st = _
    rw [Jvm.Cond.before_and, ih, List.all_cons]
def words1 : List Jvm.Cond := Jvm.Cond.code x code maxLocals ret :: tables_1
/-- a 'code' word, met by the world's own term for the bytes: nothing is compared byte by byte -/
theorem code_word {y : MethodName} {bytes : ByteArray} {mx : Nat} {rt : Option FieldType} {a : Array Value} {s : State} {m : MethodId} {meth : Method} {c : Code} (h1 : s.methodNamed? y = some m) (h2 : s.vm.method? m = some meth) (h3 : meth.code = some c) (h4 : c.code = bytes)
    (h5 : (c.maxLocals == mx && c.exceptionTable.isEmpty && decide (c.maxStack ≤ mostOperands) && decide (meth.sig.returnType = rt) && !meth.locks && decide (parseMethodDescriptor y.desc = some meth.sig)) = true) : (Jvm.Cond.code y bytes mx rt).before a s = true := by
  simp only [Bool.and_eq_true, beq_iff_eq, Bool.not_eq_true', decide_eq_true_eq] at h5
  obtain ⟨⟨⟨⟨⟨g1, g2⟩, g3⟩, g4⟩, g5⟩, g6⟩ := h5
  simp [Cond.before, Cond.holds, Cond.value, h1, h2, h3, h4, g1, g2, g3, g4, g5, g6]
def isCode : Jvm.Cond → Bool
  | .code _ _ _ _ => true
  | _ => false
theorem all_split {L : List Jvm.Cond} {P : Jvm.Cond → Bool} (h1 : L.all (fun c => isCode c || P c) = true) (h2 : ∀ c ∈ L.filter isCode, P c = true) : L.all P = true := by
  refine List.all_eq_true.mpr fun c hc => ?_
  have h := List.all_eq_true.mp h1 c hc
  rcases Bool.eq_false_or_eq_true (isCode c) with hi | hi
  · exact h2 c (List.mem_filter.mpr ⟨hc, hi⟩)
  · simpa [hi] using h
set_option maxRecDepth 65536 in
theorem w_c0 : (Jvm.Cond.code x code maxLocals ret).before args0 about1 = true := code_word (m := ⟨1, 4⟩) (meth := k1m4) (c := k1c4) (by decide +kernel) rfl rfl rfl (by decide +kernel)
set_option maxRecDepth 65536 in
theorem w_c1 : (Jvm.Cond.code ({ cls := "com/example/runehall/runehall/tavern/HeroMayEndInPinLaw", name := "hero", desc := "(I)Lcom/example/runehall/runehall/tavern/Hero;" } : Jvm.MethodName) method_2_code (2 : Nat) (Option.some (Jvm.ClassFile.FieldType.object "com/example/runehall/runehall/tavern/Hero"))).before args0 about1 = true := code_word (m := ⟨1, 1⟩) (meth := k1m1) (c := k1c1) (by decide +kernel) rfl rfl rfl (by decide +kernel)
set_option maxRecDepth 65536 in
theorem w_c2 : (Jvm.Cond.code ({ cls := "com/example/runehall/runehall/tavern/HeroMayEndInPinLaw", name := "column", desc := "(I)Lcom/example/runehall/runehall/tavern/DwarfClass;" } : Jvm.MethodName) method_3_code (2 : Nat) (Option.some (Jvm.ClassFile.FieldType.object "com/example/runehall/runehall/tavern/DwarfClass"))).before args0 about1 = true := code_word (m := ⟨1, 2⟩) (meth := k1m2) (c := k1c2) (by decide +kernel) rfl rfl rfl (by decide +kernel)
set_option maxRecDepth 65536 in
theorem w_c3 : (Jvm.Cond.code ({ cls := "com/example/runehall/runehall/tavern/Hero", name := "mayEndIn", desc := "(Lcom/example/runehall/runehall/tavern/DwarfClass;)Z" } : Jvm.MethodName) prog_17_method_10_code (2 : Nat) (Option.some Jvm.ClassFile.FieldType.boolean)).before args0 about1 = true := code_word (m := ⟨8, 0⟩) (meth := k8m0) (c := k8c0) (by decide +kernel) rfl rfl rfl (by decide +kernel)
set_option maxRecDepth 65536 in
theorem w_c4 : (Jvm.Cond.code ({ cls := "com/example/runehall/runehall/tavern/HeroMayEndInPinLaw", name := "expected", desc := "(II)Z" } : Jvm.MethodName) method_4_code (3 : Nat) (Option.some Jvm.ClassFile.FieldType.boolean)).before args0 about1 = true := code_word (m := ⟨1, 3⟩) (meth := k1m3) (c := k1c3) (by decide +kernel) rfl rfl rfl (by decide +kernel)
def codes1 : List Jvm.Cond := [Jvm.Cond.code x code maxLocals ret, Jvm.Cond.code ({ cls := "com/example/runehall/runehall/tavern/HeroMayEndInPinLaw", name := "hero", desc := "(I)Lcom/example/runehall/runehall/tavern/Hero;" } : Jvm.MethodName) method_2_code (2 : Nat) (Option.some (Jvm.ClassFile.FieldType.object "com/example/runehall/runehall/tavern/Hero")), Jvm.Cond.code ({ cls := "com/example/runehall/runehall/tavern/HeroMayEndInPinLaw", name := "column", desc := "(I)Lcom/example/runehall/runehall/tavern/DwarfClass;" } : Jvm.MethodName) method_3_code (2 : Nat) (Option.some (Jvm.ClassFile.FieldType.object "com/example/runehall/runehall/tavern/DwarfClass")), Jvm.Cond.code ({ cls := "com/example/runehall/runehall/tavern/Hero", name := "mayEndIn", desc := "(Lcom/example/runehall/runehall/tavern/DwarfClass;)Z" } : Jvm.MethodName) prog_17_method_10_code (2 : Nat) (Option.some Jvm.ClassFile.FieldType.boolean), Jvm.Cond.code ({ cls := "com/example/runehall/runehall/tavern/HeroMayEndInPinLaw", name := "expected", desc := "(II)Z" } : Jvm.MethodName) method_4_code (3 : Nat) (Option.some Jvm.ClassFile.FieldType.boolean)]
set_option maxRecDepth 65536 in
theorem codes_eq : words1.filter isCode = codes1 := rfl
theorem w_codes : ∀ c ∈ words1.filter isCode, c.before args0 about1 = true := by
  rw [codes_eq]
  intro c hc
  simp only [codes1, List.mem_cons, List.not_mem_nil, or_false] at hc
  rcases hc with rfl | rfl | rfl | rfl | rfl
  · exact w_c0
  · exact w_c1
  · exact w_c2
  · exact w_c3
  · exact w_c4
set_option maxRecDepth 65536 in
theorem w_t1 : (words1.take 24).all (fun c => isCode c || c.before args0 about1) = true := by decide +kernel
set_option maxRecDepth 65536 in
theorem w_t2 : ((words1.drop 24).take 24).all (fun c => isCode c || c.before args0 about1) = true := by decide +kernel
set_option maxRecDepth 65536 in
theorem w_t3 : ((words1.drop 24).drop 24).all (fun c => isCode c || c.before args0 about1) = true := by decide +kernel
theorem w_tables : (allAtoms (Jvm.Cond.code x code maxLocals ret :: tables_1)).before args0 about1 = true := by
  rw [allAtoms_all]
  show words1.all (fun c => c.before args0 about1) = true
  refine all_split ?_ w_codes
  rw [← List.take_append_drop 24 words1, List.all_append, w_t1, ← List.take_append_drop 24 (words1.drop 24), List.all_append, w_t2, w_t3]
  rfl
set_option maxRecDepth 65536 in
theorem w_case : (Jvm.Cond.and given_1 narrow_1).before args0 about1 = true := by decide +kernel
theorem w_applies : (headSpec (Jvm.Cond.code x code maxLocals ret :: tables_1) room_1).applies x e0.platform about1 = true :=
  (Spec.applies_iff w_frames).mpr ⟨w_running, w_runnable, w_alone, w_named, w_hears, w_ripe, w_room, w_tables⟩
theorem atStart : AtStart classFile x code maxLocals ret World_1 tables_1 room_1 Calls_1 rest_1 Pre_1 launch0 p0 e0 about1 theMethod args0 below0 :=
  ⟨lists_1, trivial, launch0.admits_env _ _ _, launch0.least_env, fairChoices_fair.cas, fairChoices_fair.clock, w_frames, w_args, w_heap, w_applies, trivial, trivial, w_case⟩
end start1
theorem witness_1 : WitnessClaimed_1 := ⟨start1.p0, start1.e0, start1.about1, start1.theMethod, start1.args0, start1.below0, start1.atStart⟩
end Jvm.Pilot.@@N@@
