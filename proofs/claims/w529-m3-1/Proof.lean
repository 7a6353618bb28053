import JvmDerived
import JvmDerived.Pilot.@@N@@Statement
import JvmDerived.Pilot.@@N@@Code
set_option linter.unusedVariables false
set_option linter.unusedSimpArgs false
namespace Jvm.RoadKit
open Sem ClassFile Op Lib Jvm.Stand Jvm.Free Jvm.LawKit
section New
variable {p : Program} {l : Launch} {e : Env} {R : Room} {s : State} {m : MethodId} {args : Array Value} {below : List Frame} {meth : Method} {c : Code} {T : State} {locs : List Loc} {cells slots : Nat}
theorem retI (X : Stand p l e R s m args below meth c T locs cells slots) (hx : p.tables.exec = Jvm.exec) {pc : Nat} {Ls : Array Slot} {z : Int32} {rest : List Value} (hret : meth.sig.returnType = some .int) (hd : decode c.code pc = .ok (.ireturn, 1)) {fs : List Frame}
    (hl : ∀ (f : JFrame) (acts : List Action), f.method = m → f.locked = none → f.entered = [] → (doReturn e (T.setTop f) acts (some (.int z))).1 = T.setFrames fs) : Steps p.tables e below (T.setTop (mkF m pc Ls (.int z :: rest))) (T.setFrames fs) := by
  have hm' : T.vm.method? m = some meth := X.method'
  have hn : narrow .int (.int z) = .int z := rfl
  show Steps p.tables e below (T.setTop { method := m, pc := pc, locals := Ls, stack := _ :: rest, locked := none }) _
  jvm_step X.here [X.here.top, hx, hd, hm', hret, hn]
  first | (intro acts; rw [hl _ acts rfl rfl rfl]) | rw [hl _ _ rfl rfl rfl]
  exact Steps.refl _
end New
end Jvm.RoadKit
@@BLOCK:NumsL.lean.txt@@
namespace Jvm.Pilot.@@N@@
open Jvm Jvm.ClassFile Sem Op Lib Jvm.Free Jvm.Stand Jvm.LawKit Jvm.RoadKit Bundle Jvm.Pilot.@@N@@.Jvm.D
theorem own_eqv {args : Array Value} {s : State} {a b : Term} {x v : Value} (hb : b.eval args s none [] s = some v) (h : (Jvm.Cond.eq a b).value args s none s [] = some true) (hv : (∃ k, v = .int k) ∨ v = .null ∨ ∃ r, v = .ref r) : a.eval args s none [] s = some v := by
  obtain ⟨x, y, h1, h2, -, -⟩ := cmp_v (Or.inl h)
  cases hb.symm.trans h2
  rw [h1]
  rcases hv with ⟨k, rfl⟩ | rfl | ⟨r, rfl⟩ <;> cases x <;> simp [Cond.value, h1, hb] at h ⊢ <;> exact h
theorem own_fld {args : Array Value} {s : State} {t u : Term} {C n d : String} {b : Addr} {v : Value} (ev : t.eval args s none [] s = some (.ref b)) (hb : u.eval args s none [] s = some v) (hv : (∃ k, v = .int k) ∨ v = .null ∨ ∃ r, v = .ref r) (h : (Jvm.Cond.eq (.field t C n d) u).value args s none s [] = some true) : Fld s s.heap b C n d v := by
  have e := own_eqv (x := v) hb h hv
  rw [fld_at ev] at e
  exact Fld.start e
theorem own_uniq {Z : State} {h : Heap} {a : Addr} {C n d : String} {v w : Value} (F : Fld Z h a C n d v) (G : Fld Z h a C n d w) : v = w := by
  obtain ⟨c1, cf1, k1, i1, f1, a1, a2, -, -, -, -, a7⟩ := F
  obtain ⟨c2, cf2, k2, i2, f2, b1, b2, -, -, -, -, b7⟩ := G
  cases a1.symm.trans b1
  cases a2.symm.trans b2
  exact Option.some.inj (a7.symm.trans b7)
theorem own_apart {Z : State} {h : Heap} {a b : Addr} {C n d : String} {v w : Value} (F : Fld Z h a C n d v) (G : Fld Z h b C n d w) (q : v ≠ w) : a ≠ b := fun e => q (own_uniq F (e ▸ G))

theorem own_last (p : Int32) (h : 0 ≤ p.toInt ∧ p.toInt < 15) (h0 : ¬ p = 0) (h1 : ¬ p = 1) (h2 : ¬ p = 2) (h3 : ¬ p = 3) (h4 : ¬ p = 4) (h5 : ¬ p = 5) (h6 : ¬ p = 6) (h7 : ¬ p = 7) (h8 : ¬ p = 8) (h9 : ¬ p = 9) (h10 : ¬ p = 10) (h11 : ¬ p = 11) (h12 : ¬ p = 12) (h13 : ¬ p = 13) : p = 14 := by
  rw [← Int32.toInt_inj] at *
  simp only [show (0 : Int32).toInt = 0 from rfl, show (1 : Int32).toInt = 1 from rfl, show (2 : Int32).toInt = 2 from rfl, show (3 : Int32).toInt = 3 from rfl, show (4 : Int32).toInt = 4 from rfl, show (5 : Int32).toInt = 5 from rfl, show (6 : Int32).toInt = 6 from rfl, show (7 : Int32).toInt = 7 from rfl, show (8 : Int32).toInt = 8 from rfl, show (9 : Int32).toInt = 9 from rfl, show (10 : Int32).toInt = 10 from rfl, show (11 : Int32).toInt = 11 from rfl, show (12 : Int32).toInt = 12 from rfl, show (13 : Int32).toInt = 13 from rfl, show (14 : Int32).toInt = 14 from rfl] at *
  omega
theorem own_or (p : Int32) (h : 0 ≤ p.toInt ∧ p.toInt < 15) : p = 0 ∨ p = 1 ∨ p = 2 ∨ p = 3 ∨ p = 4 ∨ p = 5 ∨ p = 6 ∨ p = 7 ∨ p = 8 ∨ p = 9 ∨ p = 10 ∨ p = 11 ∨ p = 12 ∨ p = 13 ∨ p = 14 := by
  by_cases h0 : p = 0; · exact Or.inl h0
  by_cases h1 : p = 1; · exact Or.inr (Or.inl h1)
  by_cases h2 : p = 2; · exact Or.inr (Or.inr (Or.inl h2))
  by_cases h3 : p = 3; · exact Or.inr (Or.inr (Or.inr (Or.inl h3)))
  by_cases h4 : p = 4; · exact Or.inr (Or.inr (Or.inr (Or.inr (Or.inl h4))))
  by_cases h5 : p = 5; · exact Or.inr (Or.inr (Or.inr (Or.inr (Or.inr (Or.inl h5)))))
  by_cases h6 : p = 6; · exact Or.inr (Or.inr (Or.inr (Or.inr (Or.inr (Or.inr (Or.inl h6))))))
  by_cases h7 : p = 7; · exact Or.inr (Or.inr (Or.inr (Or.inr (Or.inr (Or.inr (Or.inr (Or.inl h7)))))))
  by_cases h8 : p = 8; · exact Or.inr (Or.inr (Or.inr (Or.inr (Or.inr (Or.inr (Or.inr (Or.inr (Or.inl h8))))))))
  by_cases h9 : p = 9; · exact Or.inr (Or.inr (Or.inr (Or.inr (Or.inr (Or.inr (Or.inr (Or.inr (Or.inr (Or.inl h9)))))))))
  by_cases h10 : p = 10; · exact Or.inr (Or.inr (Or.inr (Or.inr (Or.inr (Or.inr (Or.inr (Or.inr (Or.inr (Or.inr (Or.inl h10))))))))))
  by_cases h11 : p = 11; · exact Or.inr (Or.inr (Or.inr (Or.inr (Or.inr (Or.inr (Or.inr (Or.inr (Or.inr (Or.inr (Or.inr (Or.inl h11)))))))))))
  by_cases h12 : p = 12; · exact Or.inr (Or.inr (Or.inr (Or.inr (Or.inr (Or.inr (Or.inr (Or.inr (Or.inr (Or.inr (Or.inr (Or.inr (Or.inl h12))))))))))))
  by_cases h13 : p = 13; · exact Or.inr (Or.inr (Or.inr (Or.inr (Or.inr (Or.inr (Or.inr (Or.inr (Or.inr (Or.inr (Or.inr (Or.inr (Or.inr (Or.inl h13)))))))))))))
  exact Or.inr (Or.inr (Or.inr (Or.inr (Or.inr (Or.inr (Or.inr (Or.inr (Or.inr (Or.inr (Or.inr (Or.inr (Or.inr (Or.inr ((own_last p h h0 h1 h2 h3 h4 h5 h6 h7 h8 h9 h10 h11 h12 h13)))))))))))))))
theorem own_mod (p : Int32) : 0 ≤ ((p &&& (2147483647 : Int32)) % (15 : Int32)).toInt ∧ ((p &&& (2147483647 : Int32)) % (15 : Int32)).toInt < 15 := by
  have e1 : (p &&& (2147483647 : Int32)).toInt = p.toInt % 2 ^ 31 := Jvm.Kit.i32_mask p (2147483647 : Int32) (k := 31) (by decide) (by decide)
  have e2 := Jvm.Kit.i32_rem_nonneg (x := (p &&& (2147483647 : Int32))) (y := (15 : Int32)) (by omega)
  rw [e2, show (15 : Int32).toInt = 15 from rfl]
  omega
theorem d1_0 : decode method_2_code 0 = .ok (.iload_n 0, 1) := by decide +kernel
theorem d1_1 : decode method_2_code 1 = .ok (.ifCond .ne 7, 3) := by decide +kernel
theorem d1_4 : decode method_2_code 4 = .ok (.getstatic 7, 3) := by decide +kernel
theorem d1_7 : decode method_2_code 7 = .ok (.areturn, 1) := by decide +kernel
theorem d1_8 : decode method_2_code 8 = .ok (.iload_n 0, 1) := by decide +kernel
theorem d1_9 : decode method_2_code 9 = .ok (.iconst 1, 1) := by decide +kernel
theorem d1_10 : decode method_2_code 10 = .ok (.if_icmp .ne 7, 3) := by decide +kernel
theorem d1_13 : decode method_2_code 13 = .ok (.getstatic 13, 3) := by decide +kernel
theorem d1_16 : decode method_2_code 16 = .ok (.areturn, 1) := by decide +kernel
theorem d1_17 : decode method_2_code 17 = .ok (.iload_n 0, 1) := by decide +kernel
theorem d1_18 : decode method_2_code 18 = .ok (.iconst 2, 1) := by decide +kernel
theorem d1_19 : decode method_2_code 19 = .ok (.if_icmp .ne 7, 3) := by decide +kernel
theorem d1_22 : decode method_2_code 22 = .ok (.getstatic 16, 3) := by decide +kernel
theorem d1_25 : decode method_2_code 25 = .ok (.areturn, 1) := by decide +kernel
theorem d1_26 : decode method_2_code 26 = .ok (.iload_n 0, 1) := by decide +kernel
theorem d1_27 : decode method_2_code 27 = .ok (.iconst 3, 1) := by decide +kernel
theorem d1_28 : decode method_2_code 28 = .ok (.if_icmp .ne 7, 3) := by decide +kernel
theorem d1_31 : decode method_2_code 31 = .ok (.getstatic 19, 3) := by decide +kernel
theorem d1_34 : decode method_2_code 34 = .ok (.areturn, 1) := by decide +kernel
theorem d1_35 : decode method_2_code 35 = .ok (.iload_n 0, 1) := by decide +kernel
theorem d1_36 : decode method_2_code 36 = .ok (.iconst 4, 1) := by decide +kernel
theorem d1_37 : decode method_2_code 37 = .ok (.if_icmp .ne 7, 3) := by decide +kernel
theorem d1_40 : decode method_2_code 40 = .ok (.getstatic 22, 3) := by decide +kernel
theorem d1_43 : decode method_2_code 43 = .ok (.areturn, 1) := by decide +kernel
theorem d1_44 : decode method_2_code 44 = .ok (.iload_n 0, 1) := by decide +kernel
theorem d1_45 : decode method_2_code 45 = .ok (.iconst 5, 1) := by decide +kernel
theorem d1_46 : decode method_2_code 46 = .ok (.if_icmp .ne 7, 3) := by decide +kernel
theorem d1_49 : decode method_2_code 49 = .ok (.getstatic 25, 3) := by decide +kernel
theorem d1_52 : decode method_2_code 52 = .ok (.areturn, 1) := by decide +kernel
theorem d1_53 : decode method_2_code 53 = .ok (.iload_n 0, 1) := by decide +kernel
theorem d1_54 : decode method_2_code 54 = .ok (.bipush 6, 2) := by decide +kernel
theorem d1_56 : decode method_2_code 56 = .ok (.if_icmp .ne 7, 3) := by decide +kernel
theorem d1_59 : decode method_2_code 59 = .ok (.getstatic 28, 3) := by decide +kernel
theorem d1_62 : decode method_2_code 62 = .ok (.areturn, 1) := by decide +kernel
theorem d1_63 : decode method_2_code 63 = .ok (.iload_n 0, 1) := by decide +kernel
theorem d1_64 : decode method_2_code 64 = .ok (.bipush 7, 2) := by decide +kernel
theorem d1_66 : decode method_2_code 66 = .ok (.if_icmp .ne 7, 3) := by decide +kernel
theorem d1_69 : decode method_2_code 69 = .ok (.getstatic 31, 3) := by decide +kernel
theorem d1_72 : decode method_2_code 72 = .ok (.areturn, 1) := by decide +kernel
theorem d1_73 : decode method_2_code 73 = .ok (.iload_n 0, 1) := by decide +kernel
theorem d1_74 : decode method_2_code 74 = .ok (.bipush 8, 2) := by decide +kernel
theorem d1_76 : decode method_2_code 76 = .ok (.if_icmp .ne 7, 3) := by decide +kernel
theorem d1_79 : decode method_2_code 79 = .ok (.getstatic 34, 3) := by decide +kernel
theorem d1_82 : decode method_2_code 82 = .ok (.areturn, 1) := by decide +kernel
theorem d1_83 : decode method_2_code 83 = .ok (.iload_n 0, 1) := by decide +kernel
theorem d1_84 : decode method_2_code 84 = .ok (.bipush 9, 2) := by decide +kernel
theorem d1_86 : decode method_2_code 86 = .ok (.if_icmp .ne 7, 3) := by decide +kernel
theorem d1_89 : decode method_2_code 89 = .ok (.getstatic 37, 3) := by decide +kernel
theorem d1_92 : decode method_2_code 92 = .ok (.areturn, 1) := by decide +kernel
theorem d1_93 : decode method_2_code 93 = .ok (.iload_n 0, 1) := by decide +kernel
theorem d1_94 : decode method_2_code 94 = .ok (.bipush 10, 2) := by decide +kernel
theorem d1_96 : decode method_2_code 96 = .ok (.if_icmp .ne 7, 3) := by decide +kernel
theorem d1_99 : decode method_2_code 99 = .ok (.getstatic 40, 3) := by decide +kernel
theorem d1_102 : decode method_2_code 102 = .ok (.areturn, 1) := by decide +kernel
theorem d1_103 : decode method_2_code 103 = .ok (.iload_n 0, 1) := by decide +kernel
theorem d1_104 : decode method_2_code 104 = .ok (.bipush 11, 2) := by decide +kernel
theorem d1_106 : decode method_2_code 106 = .ok (.if_icmp .ne 7, 3) := by decide +kernel
theorem d1_109 : decode method_2_code 109 = .ok (.getstatic 43, 3) := by decide +kernel
theorem d1_112 : decode method_2_code 112 = .ok (.areturn, 1) := by decide +kernel
theorem d1_113 : decode method_2_code 113 = .ok (.iload_n 0, 1) := by decide +kernel
theorem d1_114 : decode method_2_code 114 = .ok (.bipush 12, 2) := by decide +kernel
theorem d1_116 : decode method_2_code 116 = .ok (.if_icmp .ne 7, 3) := by decide +kernel
theorem d1_119 : decode method_2_code 119 = .ok (.getstatic 46, 3) := by decide +kernel
theorem d1_122 : decode method_2_code 122 = .ok (.areturn, 1) := by decide +kernel
theorem d1_123 : decode method_2_code 123 = .ok (.iload_n 0, 1) := by decide +kernel
theorem d1_124 : decode method_2_code 124 = .ok (.bipush 13, 2) := by decide +kernel
theorem d1_126 : decode method_2_code 126 = .ok (.if_icmp .ne 7, 3) := by decide +kernel
theorem d1_129 : decode method_2_code 129 = .ok (.getstatic 49, 3) := by decide +kernel
theorem d1_132 : decode method_2_code 132 = .ok (.areturn, 1) := by decide +kernel
theorem d1_133 : decode method_2_code 133 = .ok (.getstatic 52, 3) := by decide +kernel
theorem d1_136 : decode method_2_code 136 = .ok (.areturn, 1) := by decide +kernel
theorem pn_PgTypeMaxLengthPinLaw : plainName "com/example/gatedb/gatedb/pgwire/PgTypeMaxLengthPinLaw" = true := by first | (simp [plainName, overriddenIn]; done) | decide +kernel
theorem ef1 (m : MethodId) (x0 : Int32) : entryFrame m #[(.int x0)] 1 = mkF m 0 #[.val (.int x0)] [] := by first | (simp [entryFrame, mkF, argsToLocals, Value.category]; done) | rfl
def Q1 (Z : State) (p0 : Int32) (v_BOOL : Addr) (v_INT8 : Addr) (v_TIMESTAMP : Addr) (v_TIMESTAMPTZ : Addr) (v_VARCHAR : Addr) (v_BPCHAR : Addr) (v_NAME : Addr) (v_INT4 : Addr) (v_DATE : Addr) (v_NUMERIC : Addr) (v_FLOAT4 : Addr) (v_INT2 : Addr) (v_TIME : Addr) (v_TEXT : Addr) (v_FLOAT8 : Addr) (h0 : Heap) (n0 : Nat) (v : Option Value) (h : Heap) (L : List Loc) : Prop := ∃ bb : Addr, v = some (.ref bb) ∧ Fr n0 L ∧ h = h0 ∧ Exa Z h bb "com/example/gatedb/gatedb/pgwire/PgType" ∧ Fld Z h bb "java/lang/Enum" "ordinal" "I" (.int p0) ∧ (p0 = (3 : Int32) → bb = v_INT8) ∧ (p0 = (13 : Int32) → bb = v_TIMESTAMP) ∧ (p0 = (14 : Int32) → bb = v_TIMESTAMPTZ)
set_option maxRecDepth 65536 in
set_option maxHeartbeats 40000000 in
theorem rm1 (l : Launch) (Z : State) (a0 : Array Value) (hw : ∀ d ∈ tables_1, d.before a0 Z = true) (ws : List Jvm.Cond) (p0 : Int32) (v_BOOL : Addr) (v_INT8 : Addr) (v_TIMESTAMP : Addr) (v_TIMESTAMPTZ : Addr) (v_VARCHAR : Addr) (v_BPCHAR : Addr) (v_NAME : Addr) (v_INT4 : Addr) (v_DATE : Addr) (v_NUMERIC : Addr) (v_FLOAT4 : Addr) (v_INT2 : Addr) (v_TIME : Addr) (v_TEXT : Addr) (v_FLOAT8 : Addr) (h0 : Heap) (n0 : Nat) (Z0 : n0 ≤ h0.size) (hr : 0 ≤ p0.toInt ∧ p0.toInt < 15) (Sv_BOOL : Sta Z h0 "com/example/gatedb/gatedb/pgwire/PgType" "BOOL" "Lcom/example/gatedb/gatedb/pgwire/PgType;" (.ref v_BOOL)) (Ev_BOOL : Exa Z h0 v_BOOL "com/example/gatedb/gatedb/pgwire/PgType") (Sv_INT8 : Sta Z h0 "com/example/gatedb/gatedb/pgwire/PgType" "INT8" "Lcom/example/gatedb/gatedb/pgwire/PgType;" (.ref v_INT8)) (Ev_INT8 : Exa Z h0 v_INT8 "com/example/gatedb/gatedb/pgwire/PgType") (Sv_TIMESTAMP : Sta Z h0 "com/example/gatedb/gatedb/pgwire/PgType" "TIMESTAMP" "Lcom/example/gatedb/gatedb/pgwire/PgType;" (.ref v_TIMESTAMP)) (Ev_TIMESTAMP : Exa Z h0 v_TIMESTAMP "com/example/gatedb/gatedb/pgwire/PgType") (Sv_TIMESTAMPTZ : Sta Z h0 "com/example/gatedb/gatedb/pgwire/PgType" "TIMESTAMPTZ" "Lcom/example/gatedb/gatedb/pgwire/PgType;" (.ref v_TIMESTAMPTZ)) (Ev_TIMESTAMPTZ : Exa Z h0 v_TIMESTAMPTZ "com/example/gatedb/gatedb/pgwire/PgType") (Sv_VARCHAR : Sta Z h0 "com/example/gatedb/gatedb/pgwire/PgType" "VARCHAR" "Lcom/example/gatedb/gatedb/pgwire/PgType;" (.ref v_VARCHAR)) (Ev_VARCHAR : Exa Z h0 v_VARCHAR "com/example/gatedb/gatedb/pgwire/PgType") (Sv_BPCHAR : Sta Z h0 "com/example/gatedb/gatedb/pgwire/PgType" "BPCHAR" "Lcom/example/gatedb/gatedb/pgwire/PgType;" (.ref v_BPCHAR)) (Ev_BPCHAR : Exa Z h0 v_BPCHAR "com/example/gatedb/gatedb/pgwire/PgType") (Sv_NAME : Sta Z h0 "com/example/gatedb/gatedb/pgwire/PgType" "NAME" "Lcom/example/gatedb/gatedb/pgwire/PgType;" (.ref v_NAME)) (Ev_NAME : Exa Z h0 v_NAME "com/example/gatedb/gatedb/pgwire/PgType") (Sv_INT4 : Sta Z h0 "com/example/gatedb/gatedb/pgwire/PgType" "INT4" "Lcom/example/gatedb/gatedb/pgwire/PgType;" (.ref v_INT4)) (Ev_INT4 : Exa Z h0 v_INT4 "com/example/gatedb/gatedb/pgwire/PgType") (Sv_DATE : Sta Z h0 "com/example/gatedb/gatedb/pgwire/PgType" "DATE" "Lcom/example/gatedb/gatedb/pgwire/PgType;" (.ref v_DATE)) (Ev_DATE : Exa Z h0 v_DATE "com/example/gatedb/gatedb/pgwire/PgType") (Sv_NUMERIC : Sta Z h0 "com/example/gatedb/gatedb/pgwire/PgType" "NUMERIC" "Lcom/example/gatedb/gatedb/pgwire/PgType;" (.ref v_NUMERIC)) (Ev_NUMERIC : Exa Z h0 v_NUMERIC "com/example/gatedb/gatedb/pgwire/PgType") (Sv_FLOAT4 : Sta Z h0 "com/example/gatedb/gatedb/pgwire/PgType" "FLOAT4" "Lcom/example/gatedb/gatedb/pgwire/PgType;" (.ref v_FLOAT4)) (Ev_FLOAT4 : Exa Z h0 v_FLOAT4 "com/example/gatedb/gatedb/pgwire/PgType") (Sv_INT2 : Sta Z h0 "com/example/gatedb/gatedb/pgwire/PgType" "INT2" "Lcom/example/gatedb/gatedb/pgwire/PgType;" (.ref v_INT2)) (Ev_INT2 : Exa Z h0 v_INT2 "com/example/gatedb/gatedb/pgwire/PgType") (Sv_TIME : Sta Z h0 "com/example/gatedb/gatedb/pgwire/PgType" "TIME" "Lcom/example/gatedb/gatedb/pgwire/PgType;" (.ref v_TIME)) (Ev_TIME : Exa Z h0 v_TIME "com/example/gatedb/gatedb/pgwire/PgType") (Sv_TEXT : Sta Z h0 "com/example/gatedb/gatedb/pgwire/PgType" "TEXT" "Lcom/example/gatedb/gatedb/pgwire/PgType;" (.ref v_TEXT)) (Ev_TEXT : Exa Z h0 v_TEXT "com/example/gatedb/gatedb/pgwire/PgType") (Sv_FLOAT8 : Sta Z h0 "com/example/gatedb/gatedb/pgwire/PgType" "FLOAT8" "Lcom/example/gatedb/gatedb/pgwire/PgType;" (.ref v_FLOAT8)) (Ev_FLOAT8 : Exa Z h0 v_FLOAT8 "com/example/gatedb/gatedb/pgwire/PgType") (Fv_BOOL_ordinal : Fld Z h0 v_BOOL "java/lang/Enum" "ordinal" "I" (.int (0 : Int32))) (Fv_INT8_ordinal : Fld Z h0 v_INT8 "java/lang/Enum" "ordinal" "I" (.int (3 : Int32))) (Fv_TIMESTAMP_ordinal : Fld Z h0 v_TIMESTAMP "java/lang/Enum" "ordinal" "I" (.int (13 : Int32))) (Fv_TIMESTAMPTZ_ordinal : Fld Z h0 v_TIMESTAMPTZ "java/lang/Enum" "ordinal" "I" (.int (14 : Int32))) (Fv_VARCHAR_ordinal : Fld Z h0 v_VARCHAR "java/lang/Enum" "ordinal" "I" (.int (5 : Int32))) (Fv_BPCHAR_ordinal : Fld Z h0 v_BPCHAR "java/lang/Enum" "ordinal" "I" (.int (6 : Int32))) (Fv_NAME_ordinal : Fld Z h0 v_NAME "java/lang/Enum" "ordinal" "I" (.int (7 : Int32))) (Fv_INT4_ordinal : Fld Z h0 v_INT4 "java/lang/Enum" "ordinal" "I" (.int (2 : Int32))) (Fv_DATE_ordinal : Fld Z h0 v_DATE "java/lang/Enum" "ordinal" "I" (.int (11 : Int32))) (Fv_NUMERIC_ordinal : Fld Z h0 v_NUMERIC "java/lang/Enum" "ordinal" "I" (.int (10 : Int32))) (Fv_FLOAT4_ordinal : Fld Z h0 v_FLOAT4 "java/lang/Enum" "ordinal" "I" (.int (8 : Int32))) (Fv_INT2_ordinal : Fld Z h0 v_INT2 "java/lang/Enum" "ordinal" "I" (.int (1 : Int32))) (Fv_TIME_ordinal : Fld Z h0 v_TIME "java/lang/Enum" "ordinal" "I" (.int (12 : Int32))) (Fv_TEXT_ordinal : Fld Z h0 v_TEXT "java/lang/Enum" "ordinal" "I" (.int (4 : Int32))) (Fv_FLOAT8_ordinal : Fld Z h0 v_FLOAT8 "java/lang/Enum" "ordinal" "I" (.int (9 : Int32))) :
    MetFree l (⟨"com/example/gatedb/gatedb/pgwire/PgTypeMaxLengthPinLaw", "typeAt", "(I)Lcom/example/gatedb/gatedb/pgwire/PgType;"⟩ : MethodName) (head1 (Jvm.Cond.code (⟨"com/example/gatedb/gatedb/pgwire/PgTypeMaxLengthPinLaw", "typeAt", "(I)Lcom/example/gatedb/gatedb/pgwire/PgType;"⟩ : MethodName) method_2_code 1 (some (.object "com/example/gatedb/gatedb/pgwire/PgType")) :: ws) ({ frames := 0, cells := 0, slots := 0, locals := 0 } : Room)) (fun a U => a = #[(.int p0)] ∧ Z.Warmed39 U.vm ∧ U.heap = h0) (fun _ _ _ _ _ => True) (fun _ U o U' => ∃ v L, o = .returned v ∧ Q1 Z p0 v_BOOL v_INT8 v_TIMESTAMP v_TIMESTAMPTZ v_VARCHAR v_BPCHAR v_NAME v_INT4 v_DATE v_NUMERIC v_FLOAT4 v_INT2 v_TIME v_TEXT v_FLOAT8 h0 n0 v U'.heap L ∧ FrameEnd U o U' L ({ frames := 0, cells := 0, slots := 0, locals := 0 } : Room).cells ({ frames := 0, cells := 0, slots := 0, locals := 0 } : Room).slots) := by
  refine MetFree.of_bodySF (plainFor_of_name pn_PgTypeMaxLengthPinLaw) hisR ?_
  intro p e s m args below meth c s₁ Bd hml0 hP hK
  obtain ⟨rfl, hZ, hh⟩ := hP
  have hx := Bd.exec
  have hby := Bd.bytes
  have hml : c.maxLocals = 1 := hml0
  have hown : s.vm.findClass "com/example/gatedb/gatedb/pgwire/PgTypeMaxLengthPinLaw" = some m.cls := findClass_of_methodNamed Bd.named
  have hnm := (name_of_methodNamed Bd.named Bd.method).1
  have X0 : Stand p l e ({ frames := 0, cells := 0, slots := 0, locals := 0 } : Room) s m #[(.int p0)] below meth c s₁ [] 0 0 := Stand.of_body Bd
  have e0 : s₁.heap = h0 := by rw [← hh, Bd.state]; rfl
  have N0 := Fr.nil n0
  have pre0 : ∀ t, Steps p.tables e below (s₁.setTop (mkF m 0 #[.val (.int p0)] [])) t → Steps p.tables e below (s₁.setTop (entryFrame m #[(.int p0)] 1)) t := fun t k => castTop (ef1 m p0) k
  have S1 : ∀ t, Steps p.tables e below (s₁.setTop (mkF m 1 #[.val (.int p0)] [(.int p0)])) t → Steps p.tables e below (s₁.setTop (entryFrame m #[(.int p0)] 1)) t := by
    intro t kt
    refine pre0 _ ?_
    show Steps p.tables e below (s₁.setTop (mkF m 0 #[.val (.int p0)] [])) _
    refine XS.iloadN X0.here hx rfl (hb hby d1_0) rfl ?_
    exact kt
  by_cases hc1_2 : p0 = 0
  case pos =>
    obtain ⟨T3, X3, e3, st3⟩ := getS2 X0 hx hZ hown (host := "") (Or.inl (hw _ (List.mem_of_getElem? (i := 5) rfl))) Via.refl e0 Sv_BOOL (g := (mkF m 4 #[.val (.int p0)] [])) rfl (hb hby d1_4)
    obtain ⟨fs, hrT, hrunT, hendT, hWT, hsameT⟩ := X3.leave (v := some (.ref v_BOOL)) (fun h => by rw [Bd.returns] at h; cases h)
    refine ⟨_, _, S1 _ ?_, hrunT, hendT, _, _, rfl, ?_, ⟨_, rfl⟩, hWT, hsameT.mono (by decide) (by decide)⟩
    · show Steps p.tables e below (s₁.setTop (mkF m 1 #[.val (.int p0)] [(.int p0)])) _
      refine XS.ifNo X0.here hx rfl (hb hby d1_1) rfl (XT.i0_ne_f hc1_2) ?_
      show Steps p.tables e below (s₁.setTop (mkF m 4 #[.val (.int p0)] [])) _
      refine st3 _ ?_
      show Steps p.tables e below (T3.setTop (mkF m 7 #[.val (.int p0)] [(.ref v_BOOL)])) _
      exact retOut X3 hx Bd.returns rfl (by right; right; right; right; exact ⟨rfl, rfl, rfl⟩) (hb hby d1_7) hrT
    · show Q1 Z p0 v_BOOL v_INT8 v_TIMESTAMP v_TIMESTAMPTZ v_VARCHAR v_BPCHAR v_NAME v_INT4 v_DATE v_NUMERIC v_FLOAT4 v_INT2 v_TIME v_TEXT v_FLOAT8 h0 n0 _ T3.heap _
      rw [e3]
      exact ⟨v_BOOL, rfl, N0, rfl, Ev_BOOL, (by rw [hc1_2]; exact Fv_BOOL_ordinal), (fun q => absurd (hc1_2.symm.trans q) (by decide)), (fun q => absurd (hc1_2.symm.trans q) (by decide)), (fun q => absurd (hc1_2.symm.trans q) (by decide))⟩
  case neg =>
    have S4 : ∀ t, Steps p.tables e below (s₁.setTop (mkF m 10 #[.val (.int p0)] [(.int (1 : Int32)), (.int p0)])) t → Steps p.tables e below (s₁.setTop (entryFrame m #[(.int p0)] 1)) t := by
      intro t kt
      refine S1 _ ?_
      show Steps p.tables e below (s₁.setTop (mkF m 1 #[.val (.int p0)] [(.int p0)])) _
      refine XS.ifYes X0.here hx rfl (pc0 := 1) (pc' := 8) rfl (hb hby d1_1) rfl (XT.i0_ne_t hc1_2) (by decide) (by decide) ?_
      show Steps p.tables e below (s₁.setTop (mkF m 8 #[.val (.int p0)] [])) _
      refine XS.iloadN X0.here hx rfl (hb hby d1_8) rfl ?_
      show Steps p.tables e below (s₁.setTop (mkF m 9 #[.val (.int p0)] [(.int p0)])) _
      refine XS.iconst X0.here hx rfl (hb hby d1_9) ?_
      exact kt
    by_cases hc10_5 : p0 = (1 : Int32)
    case pos =>
      obtain ⟨T6, X6, e6, st6⟩ := getS2 X0 hx hZ hown (host := "") (Or.inl (hw _ (List.mem_of_getElem? (i := 42) rfl))) Via.refl e0 Sv_INT2 (g := (mkF m 13 #[.val (.int p0)] [])) rfl (hb hby d1_13)
      obtain ⟨fs, hrT, hrunT, hendT, hWT, hsameT⟩ := X6.leave (v := some (.ref v_INT2)) (fun h => by rw [Bd.returns] at h; cases h)
      refine ⟨_, _, S4 _ ?_, hrunT, hendT, _, _, rfl, ?_, ⟨_, rfl⟩, hWT, hsameT.mono (by decide) (by decide)⟩
      · show Steps p.tables e below (s₁.setTop (mkF m 10 #[.val (.int p0)] [(.int (1 : Int32)), (.int p0)])) _
        refine XS.icmpNo X0.here hx rfl (hb hby d1_10) rfl (XT.ii_ne_f hc10_5) ?_
        show Steps p.tables e below (s₁.setTop (mkF m 13 #[.val (.int p0)] [])) _
        refine st6 _ ?_
        show Steps p.tables e below (T6.setTop (mkF m 16 #[.val (.int p0)] [(.ref v_INT2)])) _
        exact retOut X6 hx Bd.returns rfl (by right; right; right; right; exact ⟨rfl, rfl, rfl⟩) (hb hby d1_16) hrT
      · show Q1 Z p0 v_BOOL v_INT8 v_TIMESTAMP v_TIMESTAMPTZ v_VARCHAR v_BPCHAR v_NAME v_INT4 v_DATE v_NUMERIC v_FLOAT4 v_INT2 v_TIME v_TEXT v_FLOAT8 h0 n0 _ T6.heap _
        rw [e6]
        exact ⟨v_INT2, rfl, N0, rfl, Ev_INT2, (by rw [hc10_5]; exact Fv_INT2_ordinal), (fun q => absurd (hc10_5.symm.trans q) (by decide)), (fun q => absurd (hc10_5.symm.trans q) (by decide)), (fun q => absurd (hc10_5.symm.trans q) (by decide))⟩
    case neg =>
      have S7 : ∀ t, Steps p.tables e below (s₁.setTop (mkF m 19 #[.val (.int p0)] [(.int (2 : Int32)), (.int p0)])) t → Steps p.tables e below (s₁.setTop (entryFrame m #[(.int p0)] 1)) t := by
        intro t kt
        refine S4 _ ?_
        show Steps p.tables e below (s₁.setTop (mkF m 10 #[.val (.int p0)] [(.int (1 : Int32)), (.int p0)])) _
        refine XS.icmpYes X0.here hx rfl (pc0 := 10) (pc' := 17) rfl (hb hby d1_10) rfl (XT.ii_ne_t hc10_5) (by decide) (by decide) ?_
        show Steps p.tables e below (s₁.setTop (mkF m 17 #[.val (.int p0)] [])) _
        refine XS.iloadN X0.here hx rfl (hb hby d1_17) rfl ?_
        show Steps p.tables e below (s₁.setTop (mkF m 18 #[.val (.int p0)] [(.int p0)])) _
        refine XS.iconst X0.here hx rfl (hb hby d1_18) ?_
        exact kt
      by_cases hc19_8 : p0 = (2 : Int32)
      case pos =>
        obtain ⟨T9, X9, e9, st9⟩ := getS2 X0 hx hZ hown (host := "") (Or.inl (hw _ (List.mem_of_getElem? (i := 34) rfl))) Via.refl e0 Sv_INT4 (g := (mkF m 22 #[.val (.int p0)] [])) rfl (hb hby d1_22)
        obtain ⟨fs, hrT, hrunT, hendT, hWT, hsameT⟩ := X9.leave (v := some (.ref v_INT4)) (fun h => by rw [Bd.returns] at h; cases h)
        refine ⟨_, _, S7 _ ?_, hrunT, hendT, _, _, rfl, ?_, ⟨_, rfl⟩, hWT, hsameT.mono (by decide) (by decide)⟩
        · show Steps p.tables e below (s₁.setTop (mkF m 19 #[.val (.int p0)] [(.int (2 : Int32)), (.int p0)])) _
          refine XS.icmpNo X0.here hx rfl (hb hby d1_19) rfl (XT.ii_ne_f hc19_8) ?_
          show Steps p.tables e below (s₁.setTop (mkF m 22 #[.val (.int p0)] [])) _
          refine st9 _ ?_
          show Steps p.tables e below (T9.setTop (mkF m 25 #[.val (.int p0)] [(.ref v_INT4)])) _
          exact retOut X9 hx Bd.returns rfl (by right; right; right; right; exact ⟨rfl, rfl, rfl⟩) (hb hby d1_25) hrT
        · show Q1 Z p0 v_BOOL v_INT8 v_TIMESTAMP v_TIMESTAMPTZ v_VARCHAR v_BPCHAR v_NAME v_INT4 v_DATE v_NUMERIC v_FLOAT4 v_INT2 v_TIME v_TEXT v_FLOAT8 h0 n0 _ T9.heap _
          rw [e9]
          exact ⟨v_INT4, rfl, N0, rfl, Ev_INT4, (by rw [hc19_8]; exact Fv_INT4_ordinal), (fun q => absurd (hc19_8.symm.trans q) (by decide)), (fun q => absurd (hc19_8.symm.trans q) (by decide)), (fun q => absurd (hc19_8.symm.trans q) (by decide))⟩
      case neg =>
        have S10 : ∀ t, Steps p.tables e below (s₁.setTop (mkF m 28 #[.val (.int p0)] [(.int (3 : Int32)), (.int p0)])) t → Steps p.tables e below (s₁.setTop (entryFrame m #[(.int p0)] 1)) t := by
          intro t kt
          refine S7 _ ?_
          show Steps p.tables e below (s₁.setTop (mkF m 19 #[.val (.int p0)] [(.int (2 : Int32)), (.int p0)])) _
          refine XS.icmpYes X0.here hx rfl (pc0 := 19) (pc' := 26) rfl (hb hby d1_19) rfl (XT.ii_ne_t hc19_8) (by decide) (by decide) ?_
          show Steps p.tables e below (s₁.setTop (mkF m 26 #[.val (.int p0)] [])) _
          refine XS.iloadN X0.here hx rfl (hb hby d1_26) rfl ?_
          show Steps p.tables e below (s₁.setTop (mkF m 27 #[.val (.int p0)] [(.int p0)])) _
          refine XS.iconst X0.here hx rfl (hb hby d1_27) ?_
          exact kt
        by_cases hc28_11 : p0 = (3 : Int32)
        case pos =>
          obtain ⟨T12, X12, e12, st12⟩ := getS2 X0 hx hZ hown (host := "") (Or.inl (hw _ (List.mem_of_getElem? (i := 8) rfl))) Via.refl e0 Sv_INT8 (g := (mkF m 31 #[.val (.int p0)] [])) rfl (hb hby d1_31)
          obtain ⟨fs, hrT, hrunT, hendT, hWT, hsameT⟩ := X12.leave (v := some (.ref v_INT8)) (fun h => by rw [Bd.returns] at h; cases h)
          refine ⟨_, _, S10 _ ?_, hrunT, hendT, _, _, rfl, ?_, ⟨_, rfl⟩, hWT, hsameT.mono (by decide) (by decide)⟩
          · show Steps p.tables e below (s₁.setTop (mkF m 28 #[.val (.int p0)] [(.int (3 : Int32)), (.int p0)])) _
            refine XS.icmpNo X0.here hx rfl (hb hby d1_28) rfl (XT.ii_ne_f hc28_11) ?_
            show Steps p.tables e below (s₁.setTop (mkF m 31 #[.val (.int p0)] [])) _
            refine st12 _ ?_
            show Steps p.tables e below (T12.setTop (mkF m 34 #[.val (.int p0)] [(.ref v_INT8)])) _
            exact retOut X12 hx Bd.returns rfl (by right; right; right; right; exact ⟨rfl, rfl, rfl⟩) (hb hby d1_34) hrT
          · show Q1 Z p0 v_BOOL v_INT8 v_TIMESTAMP v_TIMESTAMPTZ v_VARCHAR v_BPCHAR v_NAME v_INT4 v_DATE v_NUMERIC v_FLOAT4 v_INT2 v_TIME v_TEXT v_FLOAT8 h0 n0 _ T12.heap _
            rw [e12]
            exact ⟨v_INT8, rfl, N0, rfl, Ev_INT8, (by rw [hc28_11]; exact Fv_INT8_ordinal), (fun _ => rfl), (fun q => absurd (hc28_11.symm.trans q) (by decide)), (fun q => absurd (hc28_11.symm.trans q) (by decide))⟩
        case neg =>
          have S13 : ∀ t, Steps p.tables e below (s₁.setTop (mkF m 37 #[.val (.int p0)] [(.int (4 : Int32)), (.int p0)])) t → Steps p.tables e below (s₁.setTop (entryFrame m #[(.int p0)] 1)) t := by
            intro t kt
            refine S10 _ ?_
            show Steps p.tables e below (s₁.setTop (mkF m 28 #[.val (.int p0)] [(.int (3 : Int32)), (.int p0)])) _
            refine XS.icmpYes X0.here hx rfl (pc0 := 28) (pc' := 35) rfl (hb hby d1_28) rfl (XT.ii_ne_t hc28_11) (by decide) (by decide) ?_
            show Steps p.tables e below (s₁.setTop (mkF m 35 #[.val (.int p0)] [])) _
            refine XS.iloadN X0.here hx rfl (hb hby d1_35) rfl ?_
            show Steps p.tables e below (s₁.setTop (mkF m 36 #[.val (.int p0)] [(.int p0)])) _
            refine XS.iconst X0.here hx rfl (hb hby d1_36) ?_
            exact kt
          by_cases hc37_14 : p0 = (4 : Int32)
          case pos =>
            obtain ⟨T15, X15, e15, st15⟩ := getS2 X0 hx hZ hown (host := "") (Or.inl (hw _ (List.mem_of_getElem? (i := 46) rfl))) Via.refl e0 Sv_TEXT (g := (mkF m 40 #[.val (.int p0)] [])) rfl (hb hby d1_40)
            obtain ⟨fs, hrT, hrunT, hendT, hWT, hsameT⟩ := X15.leave (v := some (.ref v_TEXT)) (fun h => by rw [Bd.returns] at h; cases h)
            refine ⟨_, _, S13 _ ?_, hrunT, hendT, _, _, rfl, ?_, ⟨_, rfl⟩, hWT, hsameT.mono (by decide) (by decide)⟩
            · show Steps p.tables e below (s₁.setTop (mkF m 37 #[.val (.int p0)] [(.int (4 : Int32)), (.int p0)])) _
              refine XS.icmpNo X0.here hx rfl (hb hby d1_37) rfl (XT.ii_ne_f hc37_14) ?_
              show Steps p.tables e below (s₁.setTop (mkF m 40 #[.val (.int p0)] [])) _
              refine st15 _ ?_
              show Steps p.tables e below (T15.setTop (mkF m 43 #[.val (.int p0)] [(.ref v_TEXT)])) _
              exact retOut X15 hx Bd.returns rfl (by right; right; right; right; exact ⟨rfl, rfl, rfl⟩) (hb hby d1_43) hrT
            · show Q1 Z p0 v_BOOL v_INT8 v_TIMESTAMP v_TIMESTAMPTZ v_VARCHAR v_BPCHAR v_NAME v_INT4 v_DATE v_NUMERIC v_FLOAT4 v_INT2 v_TIME v_TEXT v_FLOAT8 h0 n0 _ T15.heap _
              rw [e15]
              exact ⟨v_TEXT, rfl, N0, rfl, Ev_TEXT, (by rw [hc37_14]; exact Fv_TEXT_ordinal), (fun q => absurd (hc37_14.symm.trans q) (by decide)), (fun q => absurd (hc37_14.symm.trans q) (by decide)), (fun q => absurd (hc37_14.symm.trans q) (by decide))⟩
          case neg =>
            have S16 : ∀ t, Steps p.tables e below (s₁.setTop (mkF m 46 #[.val (.int p0)] [(.int (5 : Int32)), (.int p0)])) t → Steps p.tables e below (s₁.setTop (entryFrame m #[(.int p0)] 1)) t := by
              intro t kt
              refine S13 _ ?_
              show Steps p.tables e below (s₁.setTop (mkF m 37 #[.val (.int p0)] [(.int (4 : Int32)), (.int p0)])) _
              refine XS.icmpYes X0.here hx rfl (pc0 := 37) (pc' := 44) rfl (hb hby d1_37) rfl (XT.ii_ne_t hc37_14) (by decide) (by decide) ?_
              show Steps p.tables e below (s₁.setTop (mkF m 44 #[.val (.int p0)] [])) _
              refine XS.iloadN X0.here hx rfl (hb hby d1_44) rfl ?_
              show Steps p.tables e below (s₁.setTop (mkF m 45 #[.val (.int p0)] [(.int p0)])) _
              refine XS.iconst X0.here hx rfl (hb hby d1_45) ?_
              exact kt
            by_cases hc46_17 : p0 = (5 : Int32)
            case pos =>
              obtain ⟨T18, X18, e18, st18⟩ := getS2 X0 hx hZ hown (host := "") (Or.inl (hw _ (List.mem_of_getElem? (i := 28) rfl))) Via.refl e0 Sv_VARCHAR (g := (mkF m 49 #[.val (.int p0)] [])) rfl (hb hby d1_49)
              obtain ⟨fs, hrT, hrunT, hendT, hWT, hsameT⟩ := X18.leave (v := some (.ref v_VARCHAR)) (fun h => by rw [Bd.returns] at h; cases h)
              refine ⟨_, _, S16 _ ?_, hrunT, hendT, _, _, rfl, ?_, ⟨_, rfl⟩, hWT, hsameT.mono (by decide) (by decide)⟩
              · show Steps p.tables e below (s₁.setTop (mkF m 46 #[.val (.int p0)] [(.int (5 : Int32)), (.int p0)])) _
                refine XS.icmpNo X0.here hx rfl (hb hby d1_46) rfl (XT.ii_ne_f hc46_17) ?_
                show Steps p.tables e below (s₁.setTop (mkF m 49 #[.val (.int p0)] [])) _
                refine st18 _ ?_
                show Steps p.tables e below (T18.setTop (mkF m 52 #[.val (.int p0)] [(.ref v_VARCHAR)])) _
                exact retOut X18 hx Bd.returns rfl (by right; right; right; right; exact ⟨rfl, rfl, rfl⟩) (hb hby d1_52) hrT
              · show Q1 Z p0 v_BOOL v_INT8 v_TIMESTAMP v_TIMESTAMPTZ v_VARCHAR v_BPCHAR v_NAME v_INT4 v_DATE v_NUMERIC v_FLOAT4 v_INT2 v_TIME v_TEXT v_FLOAT8 h0 n0 _ T18.heap _
                rw [e18]
                exact ⟨v_VARCHAR, rfl, N0, rfl, Ev_VARCHAR, (by rw [hc46_17]; exact Fv_VARCHAR_ordinal), (fun q => absurd (hc46_17.symm.trans q) (by decide)), (fun q => absurd (hc46_17.symm.trans q) (by decide)), (fun q => absurd (hc46_17.symm.trans q) (by decide))⟩
            case neg =>
              have S19 : ∀ t, Steps p.tables e below (s₁.setTop (mkF m 56 #[.val (.int p0)] [(.int (6 : Int32)), (.int p0)])) t → Steps p.tables e below (s₁.setTop (entryFrame m #[(.int p0)] 1)) t := by
                intro t kt
                refine S16 _ ?_
                show Steps p.tables e below (s₁.setTop (mkF m 46 #[.val (.int p0)] [(.int (5 : Int32)), (.int p0)])) _
                refine XS.icmpYes X0.here hx rfl (pc0 := 46) (pc' := 53) rfl (hb hby d1_46) rfl (XT.ii_ne_t hc46_17) (by decide) (by decide) ?_
                show Steps p.tables e below (s₁.setTop (mkF m 53 #[.val (.int p0)] [])) _
                refine XS.iloadN X0.here hx rfl (hb hby d1_53) rfl ?_
                show Steps p.tables e below (s₁.setTop (mkF m 54 #[.val (.int p0)] [(.int p0)])) _
                refine XS.bipush X0.here hx rfl (hb hby d1_54) ?_
                exact kt
              by_cases hc56_20 : p0 = (6 : Int32)
              case pos =>
                obtain ⟨T21, X21, e21, st21⟩ := getS2 X0 hx hZ hown (host := "") (Or.inl (hw _ (List.mem_of_getElem? (i := 30) rfl))) Via.refl e0 Sv_BPCHAR (g := (mkF m 59 #[.val (.int p0)] [])) rfl (hb hby d1_59)
                obtain ⟨fs, hrT, hrunT, hendT, hWT, hsameT⟩ := X21.leave (v := some (.ref v_BPCHAR)) (fun h => by rw [Bd.returns] at h; cases h)
                refine ⟨_, _, S19 _ ?_, hrunT, hendT, _, _, rfl, ?_, ⟨_, rfl⟩, hWT, hsameT.mono (by decide) (by decide)⟩
                · show Steps p.tables e below (s₁.setTop (mkF m 56 #[.val (.int p0)] [(.int (6 : Int32)), (.int p0)])) _
                  refine XS.icmpNo X0.here hx rfl (hb hby d1_56) rfl (XT.ii_ne_f hc56_20) ?_
                  show Steps p.tables e below (s₁.setTop (mkF m 59 #[.val (.int p0)] [])) _
                  refine st21 _ ?_
                  show Steps p.tables e below (T21.setTop (mkF m 62 #[.val (.int p0)] [(.ref v_BPCHAR)])) _
                  exact retOut X21 hx Bd.returns rfl (by right; right; right; right; exact ⟨rfl, rfl, rfl⟩) (hb hby d1_62) hrT
                · show Q1 Z p0 v_BOOL v_INT8 v_TIMESTAMP v_TIMESTAMPTZ v_VARCHAR v_BPCHAR v_NAME v_INT4 v_DATE v_NUMERIC v_FLOAT4 v_INT2 v_TIME v_TEXT v_FLOAT8 h0 n0 _ T21.heap _
                  rw [e21]
                  exact ⟨v_BPCHAR, rfl, N0, rfl, Ev_BPCHAR, (by rw [hc56_20]; exact Fv_BPCHAR_ordinal), (fun q => absurd (hc56_20.symm.trans q) (by decide)), (fun q => absurd (hc56_20.symm.trans q) (by decide)), (fun q => absurd (hc56_20.symm.trans q) (by decide))⟩
              case neg =>
                have S22 : ∀ t, Steps p.tables e below (s₁.setTop (mkF m 66 #[.val (.int p0)] [(.int (7 : Int32)), (.int p0)])) t → Steps p.tables e below (s₁.setTop (entryFrame m #[(.int p0)] 1)) t := by
                  intro t kt
                  refine S19 _ ?_
                  show Steps p.tables e below (s₁.setTop (mkF m 56 #[.val (.int p0)] [(.int (6 : Int32)), (.int p0)])) _
                  refine XS.icmpYes X0.here hx rfl (pc0 := 56) (pc' := 63) rfl (hb hby d1_56) rfl (XT.ii_ne_t hc56_20) (by decide) (by decide) ?_
                  show Steps p.tables e below (s₁.setTop (mkF m 63 #[.val (.int p0)] [])) _
                  refine XS.iloadN X0.here hx rfl (hb hby d1_63) rfl ?_
                  show Steps p.tables e below (s₁.setTop (mkF m 64 #[.val (.int p0)] [(.int p0)])) _
                  refine XS.bipush X0.here hx rfl (hb hby d1_64) ?_
                  exact kt
                by_cases hc66_23 : p0 = (7 : Int32)
                case pos =>
                  obtain ⟨T24, X24, e24, st24⟩ := getS2 X0 hx hZ hown (host := "") (Or.inl (hw _ (List.mem_of_getElem? (i := 32) rfl))) Via.refl e0 Sv_NAME (g := (mkF m 69 #[.val (.int p0)] [])) rfl (hb hby d1_69)
                  obtain ⟨fs, hrT, hrunT, hendT, hWT, hsameT⟩ := X24.leave (v := some (.ref v_NAME)) (fun h => by rw [Bd.returns] at h; cases h)
                  refine ⟨_, _, S22 _ ?_, hrunT, hendT, _, _, rfl, ?_, ⟨_, rfl⟩, hWT, hsameT.mono (by decide) (by decide)⟩
                  · show Steps p.tables e below (s₁.setTop (mkF m 66 #[.val (.int p0)] [(.int (7 : Int32)), (.int p0)])) _
                    refine XS.icmpNo X0.here hx rfl (hb hby d1_66) rfl (XT.ii_ne_f hc66_23) ?_
                    show Steps p.tables e below (s₁.setTop (mkF m 69 #[.val (.int p0)] [])) _
                    refine st24 _ ?_
                    show Steps p.tables e below (T24.setTop (mkF m 72 #[.val (.int p0)] [(.ref v_NAME)])) _
                    exact retOut X24 hx Bd.returns rfl (by right; right; right; right; exact ⟨rfl, rfl, rfl⟩) (hb hby d1_72) hrT
                  · show Q1 Z p0 v_BOOL v_INT8 v_TIMESTAMP v_TIMESTAMPTZ v_VARCHAR v_BPCHAR v_NAME v_INT4 v_DATE v_NUMERIC v_FLOAT4 v_INT2 v_TIME v_TEXT v_FLOAT8 h0 n0 _ T24.heap _
                    rw [e24]
                    exact ⟨v_NAME, rfl, N0, rfl, Ev_NAME, (by rw [hc66_23]; exact Fv_NAME_ordinal), (fun q => absurd (hc66_23.symm.trans q) (by decide)), (fun q => absurd (hc66_23.symm.trans q) (by decide)), (fun q => absurd (hc66_23.symm.trans q) (by decide))⟩
                case neg =>
                  have S25 : ∀ t, Steps p.tables e below (s₁.setTop (mkF m 76 #[.val (.int p0)] [(.int (8 : Int32)), (.int p0)])) t → Steps p.tables e below (s₁.setTop (entryFrame m #[(.int p0)] 1)) t := by
                    intro t kt
                    refine S22 _ ?_
                    show Steps p.tables e below (s₁.setTop (mkF m 66 #[.val (.int p0)] [(.int (7 : Int32)), (.int p0)])) _
                    refine XS.icmpYes X0.here hx rfl (pc0 := 66) (pc' := 73) rfl (hb hby d1_66) rfl (XT.ii_ne_t hc66_23) (by decide) (by decide) ?_
                    show Steps p.tables e below (s₁.setTop (mkF m 73 #[.val (.int p0)] [])) _
                    refine XS.iloadN X0.here hx rfl (hb hby d1_73) rfl ?_
                    show Steps p.tables e below (s₁.setTop (mkF m 74 #[.val (.int p0)] [(.int p0)])) _
                    refine XS.bipush X0.here hx rfl (hb hby d1_74) ?_
                    exact kt
                  by_cases hc76_26 : p0 = (8 : Int32)
                  case pos =>
                    obtain ⟨T27, X27, e27, st27⟩ := getS2 X0 hx hZ hown (host := "") (Or.inl (hw _ (List.mem_of_getElem? (i := 40) rfl))) Via.refl e0 Sv_FLOAT4 (g := (mkF m 79 #[.val (.int p0)] [])) rfl (hb hby d1_79)
                    obtain ⟨fs, hrT, hrunT, hendT, hWT, hsameT⟩ := X27.leave (v := some (.ref v_FLOAT4)) (fun h => by rw [Bd.returns] at h; cases h)
                    refine ⟨_, _, S25 _ ?_, hrunT, hendT, _, _, rfl, ?_, ⟨_, rfl⟩, hWT, hsameT.mono (by decide) (by decide)⟩
                    · show Steps p.tables e below (s₁.setTop (mkF m 76 #[.val (.int p0)] [(.int (8 : Int32)), (.int p0)])) _
                      refine XS.icmpNo X0.here hx rfl (hb hby d1_76) rfl (XT.ii_ne_f hc76_26) ?_
                      show Steps p.tables e below (s₁.setTop (mkF m 79 #[.val (.int p0)] [])) _
                      refine st27 _ ?_
                      show Steps p.tables e below (T27.setTop (mkF m 82 #[.val (.int p0)] [(.ref v_FLOAT4)])) _
                      exact retOut X27 hx Bd.returns rfl (by right; right; right; right; exact ⟨rfl, rfl, rfl⟩) (hb hby d1_82) hrT
                    · show Q1 Z p0 v_BOOL v_INT8 v_TIMESTAMP v_TIMESTAMPTZ v_VARCHAR v_BPCHAR v_NAME v_INT4 v_DATE v_NUMERIC v_FLOAT4 v_INT2 v_TIME v_TEXT v_FLOAT8 h0 n0 _ T27.heap _
                      rw [e27]
                      exact ⟨v_FLOAT4, rfl, N0, rfl, Ev_FLOAT4, (by rw [hc76_26]; exact Fv_FLOAT4_ordinal), (fun q => absurd (hc76_26.symm.trans q) (by decide)), (fun q => absurd (hc76_26.symm.trans q) (by decide)), (fun q => absurd (hc76_26.symm.trans q) (by decide))⟩
                  case neg =>
                    have S28 : ∀ t, Steps p.tables e below (s₁.setTop (mkF m 86 #[.val (.int p0)] [(.int (9 : Int32)), (.int p0)])) t → Steps p.tables e below (s₁.setTop (entryFrame m #[(.int p0)] 1)) t := by
                      intro t kt
                      refine S25 _ ?_
                      show Steps p.tables e below (s₁.setTop (mkF m 76 #[.val (.int p0)] [(.int (8 : Int32)), (.int p0)])) _
                      refine XS.icmpYes X0.here hx rfl (pc0 := 76) (pc' := 83) rfl (hb hby d1_76) rfl (XT.ii_ne_t hc76_26) (by decide) (by decide) ?_
                      show Steps p.tables e below (s₁.setTop (mkF m 83 #[.val (.int p0)] [])) _
                      refine XS.iloadN X0.here hx rfl (hb hby d1_83) rfl ?_
                      show Steps p.tables e below (s₁.setTop (mkF m 84 #[.val (.int p0)] [(.int p0)])) _
                      refine XS.bipush X0.here hx rfl (hb hby d1_84) ?_
                      exact kt
                    by_cases hc86_29 : p0 = (9 : Int32)
                    case pos =>
                      obtain ⟨T30, X30, e30, st30⟩ := getS2 X0 hx hZ hown (host := "") (Or.inl (hw _ (List.mem_of_getElem? (i := 48) rfl))) Via.refl e0 Sv_FLOAT8 (g := (mkF m 89 #[.val (.int p0)] [])) rfl (hb hby d1_89)
                      obtain ⟨fs, hrT, hrunT, hendT, hWT, hsameT⟩ := X30.leave (v := some (.ref v_FLOAT8)) (fun h => by rw [Bd.returns] at h; cases h)
                      refine ⟨_, _, S28 _ ?_, hrunT, hendT, _, _, rfl, ?_, ⟨_, rfl⟩, hWT, hsameT.mono (by decide) (by decide)⟩
                      · show Steps p.tables e below (s₁.setTop (mkF m 86 #[.val (.int p0)] [(.int (9 : Int32)), (.int p0)])) _
                        refine XS.icmpNo X0.here hx rfl (hb hby d1_86) rfl (XT.ii_ne_f hc86_29) ?_
                        show Steps p.tables e below (s₁.setTop (mkF m 89 #[.val (.int p0)] [])) _
                        refine st30 _ ?_
                        show Steps p.tables e below (T30.setTop (mkF m 92 #[.val (.int p0)] [(.ref v_FLOAT8)])) _
                        exact retOut X30 hx Bd.returns rfl (by right; right; right; right; exact ⟨rfl, rfl, rfl⟩) (hb hby d1_92) hrT
                      · show Q1 Z p0 v_BOOL v_INT8 v_TIMESTAMP v_TIMESTAMPTZ v_VARCHAR v_BPCHAR v_NAME v_INT4 v_DATE v_NUMERIC v_FLOAT4 v_INT2 v_TIME v_TEXT v_FLOAT8 h0 n0 _ T30.heap _
                        rw [e30]
                        exact ⟨v_FLOAT8, rfl, N0, rfl, Ev_FLOAT8, (by rw [hc86_29]; exact Fv_FLOAT8_ordinal), (fun q => absurd (hc86_29.symm.trans q) (by decide)), (fun q => absurd (hc86_29.symm.trans q) (by decide)), (fun q => absurd (hc86_29.symm.trans q) (by decide))⟩
                    case neg =>
                      have S31 : ∀ t, Steps p.tables e below (s₁.setTop (mkF m 96 #[.val (.int p0)] [(.int (10 : Int32)), (.int p0)])) t → Steps p.tables e below (s₁.setTop (entryFrame m #[(.int p0)] 1)) t := by
                        intro t kt
                        refine S28 _ ?_
                        show Steps p.tables e below (s₁.setTop (mkF m 86 #[.val (.int p0)] [(.int (9 : Int32)), (.int p0)])) _
                        refine XS.icmpYes X0.here hx rfl (pc0 := 86) (pc' := 93) rfl (hb hby d1_86) rfl (XT.ii_ne_t hc86_29) (by decide) (by decide) ?_
                        show Steps p.tables e below (s₁.setTop (mkF m 93 #[.val (.int p0)] [])) _
                        refine XS.iloadN X0.here hx rfl (hb hby d1_93) rfl ?_
                        show Steps p.tables e below (s₁.setTop (mkF m 94 #[.val (.int p0)] [(.int p0)])) _
                        refine XS.bipush X0.here hx rfl (hb hby d1_94) ?_
                        exact kt
                      by_cases hc96_32 : p0 = (10 : Int32)
                      case pos =>
                        obtain ⟨T33, X33, e33, st33⟩ := getS2 X0 hx hZ hown (host := "") (Or.inl (hw _ (List.mem_of_getElem? (i := 38) rfl))) Via.refl e0 Sv_NUMERIC (g := (mkF m 99 #[.val (.int p0)] [])) rfl (hb hby d1_99)
                        obtain ⟨fs, hrT, hrunT, hendT, hWT, hsameT⟩ := X33.leave (v := some (.ref v_NUMERIC)) (fun h => by rw [Bd.returns] at h; cases h)
                        refine ⟨_, _, S31 _ ?_, hrunT, hendT, _, _, rfl, ?_, ⟨_, rfl⟩, hWT, hsameT.mono (by decide) (by decide)⟩
                        · show Steps p.tables e below (s₁.setTop (mkF m 96 #[.val (.int p0)] [(.int (10 : Int32)), (.int p0)])) _
                          refine XS.icmpNo X0.here hx rfl (hb hby d1_96) rfl (XT.ii_ne_f hc96_32) ?_
                          show Steps p.tables e below (s₁.setTop (mkF m 99 #[.val (.int p0)] [])) _
                          refine st33 _ ?_
                          show Steps p.tables e below (T33.setTop (mkF m 102 #[.val (.int p0)] [(.ref v_NUMERIC)])) _
                          exact retOut X33 hx Bd.returns rfl (by right; right; right; right; exact ⟨rfl, rfl, rfl⟩) (hb hby d1_102) hrT
                        · show Q1 Z p0 v_BOOL v_INT8 v_TIMESTAMP v_TIMESTAMPTZ v_VARCHAR v_BPCHAR v_NAME v_INT4 v_DATE v_NUMERIC v_FLOAT4 v_INT2 v_TIME v_TEXT v_FLOAT8 h0 n0 _ T33.heap _
                          rw [e33]
                          exact ⟨v_NUMERIC, rfl, N0, rfl, Ev_NUMERIC, (by rw [hc96_32]; exact Fv_NUMERIC_ordinal), (fun q => absurd (hc96_32.symm.trans q) (by decide)), (fun q => absurd (hc96_32.symm.trans q) (by decide)), (fun q => absurd (hc96_32.symm.trans q) (by decide))⟩
                      case neg =>
                        have S34 : ∀ t, Steps p.tables e below (s₁.setTop (mkF m 106 #[.val (.int p0)] [(.int (11 : Int32)), (.int p0)])) t → Steps p.tables e below (s₁.setTop (entryFrame m #[(.int p0)] 1)) t := by
                          intro t kt
                          refine S31 _ ?_
                          show Steps p.tables e below (s₁.setTop (mkF m 96 #[.val (.int p0)] [(.int (10 : Int32)), (.int p0)])) _
                          refine XS.icmpYes X0.here hx rfl (pc0 := 96) (pc' := 103) rfl (hb hby d1_96) rfl (XT.ii_ne_t hc96_32) (by decide) (by decide) ?_
                          show Steps p.tables e below (s₁.setTop (mkF m 103 #[.val (.int p0)] [])) _
                          refine XS.iloadN X0.here hx rfl (hb hby d1_103) rfl ?_
                          show Steps p.tables e below (s₁.setTop (mkF m 104 #[.val (.int p0)] [(.int p0)])) _
                          refine XS.bipush X0.here hx rfl (hb hby d1_104) ?_
                          exact kt
                        by_cases hc106_35 : p0 = (11 : Int32)
                        case pos =>
                          obtain ⟨T36, X36, e36, st36⟩ := getS2 X0 hx hZ hown (host := "") (Or.inl (hw _ (List.mem_of_getElem? (i := 36) rfl))) Via.refl e0 Sv_DATE (g := (mkF m 109 #[.val (.int p0)] [])) rfl (hb hby d1_109)
                          obtain ⟨fs, hrT, hrunT, hendT, hWT, hsameT⟩ := X36.leave (v := some (.ref v_DATE)) (fun h => by rw [Bd.returns] at h; cases h)
                          refine ⟨_, _, S34 _ ?_, hrunT, hendT, _, _, rfl, ?_, ⟨_, rfl⟩, hWT, hsameT.mono (by decide) (by decide)⟩
                          · show Steps p.tables e below (s₁.setTop (mkF m 106 #[.val (.int p0)] [(.int (11 : Int32)), (.int p0)])) _
                            refine XS.icmpNo X0.here hx rfl (hb hby d1_106) rfl (XT.ii_ne_f hc106_35) ?_
                            show Steps p.tables e below (s₁.setTop (mkF m 109 #[.val (.int p0)] [])) _
                            refine st36 _ ?_
                            show Steps p.tables e below (T36.setTop (mkF m 112 #[.val (.int p0)] [(.ref v_DATE)])) _
                            exact retOut X36 hx Bd.returns rfl (by right; right; right; right; exact ⟨rfl, rfl, rfl⟩) (hb hby d1_112) hrT
                          · show Q1 Z p0 v_BOOL v_INT8 v_TIMESTAMP v_TIMESTAMPTZ v_VARCHAR v_BPCHAR v_NAME v_INT4 v_DATE v_NUMERIC v_FLOAT4 v_INT2 v_TIME v_TEXT v_FLOAT8 h0 n0 _ T36.heap _
                            rw [e36]
                            exact ⟨v_DATE, rfl, N0, rfl, Ev_DATE, (by rw [hc106_35]; exact Fv_DATE_ordinal), (fun q => absurd (hc106_35.symm.trans q) (by decide)), (fun q => absurd (hc106_35.symm.trans q) (by decide)), (fun q => absurd (hc106_35.symm.trans q) (by decide))⟩
                        case neg =>
                          have S37 : ∀ t, Steps p.tables e below (s₁.setTop (mkF m 116 #[.val (.int p0)] [(.int (12 : Int32)), (.int p0)])) t → Steps p.tables e below (s₁.setTop (entryFrame m #[(.int p0)] 1)) t := by
                            intro t kt
                            refine S34 _ ?_
                            show Steps p.tables e below (s₁.setTop (mkF m 106 #[.val (.int p0)] [(.int (11 : Int32)), (.int p0)])) _
                            refine XS.icmpYes X0.here hx rfl (pc0 := 106) (pc' := 113) rfl (hb hby d1_106) rfl (XT.ii_ne_t hc106_35) (by decide) (by decide) ?_
                            show Steps p.tables e below (s₁.setTop (mkF m 113 #[.val (.int p0)] [])) _
                            refine XS.iloadN X0.here hx rfl (hb hby d1_113) rfl ?_
                            show Steps p.tables e below (s₁.setTop (mkF m 114 #[.val (.int p0)] [(.int p0)])) _
                            refine XS.bipush X0.here hx rfl (hb hby d1_114) ?_
                            exact kt
                          by_cases hc116_38 : p0 = (12 : Int32)
                          case pos =>
                            obtain ⟨T39, X39, e39, st39⟩ := getS2 X0 hx hZ hown (host := "") (Or.inl (hw _ (List.mem_of_getElem? (i := 44) rfl))) Via.refl e0 Sv_TIME (g := (mkF m 119 #[.val (.int p0)] [])) rfl (hb hby d1_119)
                            obtain ⟨fs, hrT, hrunT, hendT, hWT, hsameT⟩ := X39.leave (v := some (.ref v_TIME)) (fun h => by rw [Bd.returns] at h; cases h)
                            refine ⟨_, _, S37 _ ?_, hrunT, hendT, _, _, rfl, ?_, ⟨_, rfl⟩, hWT, hsameT.mono (by decide) (by decide)⟩
                            · show Steps p.tables e below (s₁.setTop (mkF m 116 #[.val (.int p0)] [(.int (12 : Int32)), (.int p0)])) _
                              refine XS.icmpNo X0.here hx rfl (hb hby d1_116) rfl (XT.ii_ne_f hc116_38) ?_
                              show Steps p.tables e below (s₁.setTop (mkF m 119 #[.val (.int p0)] [])) _
                              refine st39 _ ?_
                              show Steps p.tables e below (T39.setTop (mkF m 122 #[.val (.int p0)] [(.ref v_TIME)])) _
                              exact retOut X39 hx Bd.returns rfl (by right; right; right; right; exact ⟨rfl, rfl, rfl⟩) (hb hby d1_122) hrT
                            · show Q1 Z p0 v_BOOL v_INT8 v_TIMESTAMP v_TIMESTAMPTZ v_VARCHAR v_BPCHAR v_NAME v_INT4 v_DATE v_NUMERIC v_FLOAT4 v_INT2 v_TIME v_TEXT v_FLOAT8 h0 n0 _ T39.heap _
                              rw [e39]
                              exact ⟨v_TIME, rfl, N0, rfl, Ev_TIME, (by rw [hc116_38]; exact Fv_TIME_ordinal), (fun q => absurd (hc116_38.symm.trans q) (by decide)), (fun q => absurd (hc116_38.symm.trans q) (by decide)), (fun q => absurd (hc116_38.symm.trans q) (by decide))⟩
                          case neg =>
                            have S40 : ∀ t, Steps p.tables e below (s₁.setTop (mkF m 126 #[.val (.int p0)] [(.int (13 : Int32)), (.int p0)])) t → Steps p.tables e below (s₁.setTop (entryFrame m #[(.int p0)] 1)) t := by
                              intro t kt
                              refine S37 _ ?_
                              show Steps p.tables e below (s₁.setTop (mkF m 116 #[.val (.int p0)] [(.int (12 : Int32)), (.int p0)])) _
                              refine XS.icmpYes X0.here hx rfl (pc0 := 116) (pc' := 123) rfl (hb hby d1_116) rfl (XT.ii_ne_t hc116_38) (by decide) (by decide) ?_
                              show Steps p.tables e below (s₁.setTop (mkF m 123 #[.val (.int p0)] [])) _
                              refine XS.iloadN X0.here hx rfl (hb hby d1_123) rfl ?_
                              show Steps p.tables e below (s₁.setTop (mkF m 124 #[.val (.int p0)] [(.int p0)])) _
                              refine XS.bipush X0.here hx rfl (hb hby d1_124) ?_
                              exact kt
                            by_cases hc126_41 : p0 = (13 : Int32)
                            case pos =>
                              obtain ⟨T42, X42, e42, st42⟩ := getS2 X0 hx hZ hown (host := "") (Or.inl (hw _ (List.mem_of_getElem? (i := 10) rfl))) Via.refl e0 Sv_TIMESTAMP (g := (mkF m 129 #[.val (.int p0)] [])) rfl (hb hby d1_129)
                              obtain ⟨fs, hrT, hrunT, hendT, hWT, hsameT⟩ := X42.leave (v := some (.ref v_TIMESTAMP)) (fun h => by rw [Bd.returns] at h; cases h)
                              refine ⟨_, _, S40 _ ?_, hrunT, hendT, _, _, rfl, ?_, ⟨_, rfl⟩, hWT, hsameT.mono (by decide) (by decide)⟩
                              · show Steps p.tables e below (s₁.setTop (mkF m 126 #[.val (.int p0)] [(.int (13 : Int32)), (.int p0)])) _
                                refine XS.icmpNo X0.here hx rfl (hb hby d1_126) rfl (XT.ii_ne_f hc126_41) ?_
                                show Steps p.tables e below (s₁.setTop (mkF m 129 #[.val (.int p0)] [])) _
                                refine st42 _ ?_
                                show Steps p.tables e below (T42.setTop (mkF m 132 #[.val (.int p0)] [(.ref v_TIMESTAMP)])) _
                                exact retOut X42 hx Bd.returns rfl (by right; right; right; right; exact ⟨rfl, rfl, rfl⟩) (hb hby d1_132) hrT
                              · show Q1 Z p0 v_BOOL v_INT8 v_TIMESTAMP v_TIMESTAMPTZ v_VARCHAR v_BPCHAR v_NAME v_INT4 v_DATE v_NUMERIC v_FLOAT4 v_INT2 v_TIME v_TEXT v_FLOAT8 h0 n0 _ T42.heap _
                                rw [e42]
                                exact ⟨v_TIMESTAMP, rfl, N0, rfl, Ev_TIMESTAMP, (by rw [hc126_41]; exact Fv_TIMESTAMP_ordinal), (fun q => absurd (hc126_41.symm.trans q) (by decide)), (fun _ => rfl), (fun q => absurd (hc126_41.symm.trans q) (by decide))⟩
                            case neg =>
                              obtain ⟨T43, X43, e43, st43⟩ := getS2 X0 hx hZ hown (host := "") (Or.inl (hw _ (List.mem_of_getElem? (i := 12) rfl))) Via.refl e0 Sv_TIMESTAMPTZ (g := (mkF m 133 #[.val (.int p0)] [])) rfl (hb hby d1_133)
                              obtain ⟨fs, hrT, hrunT, hendT, hWT, hsameT⟩ := X43.leave (v := some (.ref v_TIMESTAMPTZ)) (fun h => by rw [Bd.returns] at h; cases h)
                              refine ⟨_, _, S40 _ ?_, hrunT, hendT, _, _, rfl, ?_, ⟨_, rfl⟩, hWT, hsameT.mono (by decide) (by decide)⟩
                              · show Steps p.tables e below (s₁.setTop (mkF m 126 #[.val (.int p0)] [(.int (13 : Int32)), (.int p0)])) _
                                refine XS.icmpYes X0.here hx rfl (pc0 := 126) (pc' := 133) rfl (hb hby d1_126) rfl (XT.ii_ne_t hc126_41) (by decide) (by decide) ?_
                                show Steps p.tables e below (s₁.setTop (mkF m 133 #[.val (.int p0)] [])) _
                                refine st43 _ ?_
                                show Steps p.tables e below (T43.setTop (mkF m 136 #[.val (.int p0)] [(.ref v_TIMESTAMPTZ)])) _
                                exact retOut X43 hx Bd.returns rfl (by right; right; right; right; exact ⟨rfl, rfl, rfl⟩) (hb hby d1_136) hrT
                              · show Q1 Z p0 v_BOOL v_INT8 v_TIMESTAMP v_TIMESTAMPTZ v_VARCHAR v_BPCHAR v_NAME v_INT4 v_DATE v_NUMERIC v_FLOAT4 v_INT2 v_TIME v_TEXT v_FLOAT8 h0 n0 _ T43.heap _
                                rw [e43]
                                exact ⟨v_TIMESTAMPTZ, rfl, N0, rfl, Ev_TIMESTAMPTZ, (by rw [(own_last p0 hr hc1_2 hc10_5 hc19_8 hc28_11 hc37_14 hc46_17 hc56_20 hc66_23 hc76_26 hc86_29 hc96_32 hc106_35 hc116_38 hc126_41)]; exact Fv_TIMESTAMPTZ_ordinal), (fun q => absurd ((own_last p0 hr hc1_2 hc10_5 hc19_8 hc28_11 hc37_14 hc46_17 hc56_20 hc66_23 hc76_26 hc86_29 hc96_32 hc106_35 hc116_38 hc126_41).symm.trans q) (by decide)), (fun q => absurd ((own_last p0 hr hc1_2 hc10_5 hc19_8 hc28_11 hc37_14 hc46_17 hc56_20 hc66_23 hc76_26 hc86_29 hc96_32 hc106_35 hc116_38 hc126_41).symm.trans q) (by decide)), (fun _ => rfl)⟩
theorem d3_0 : decode jdk_37_method_2_code 0 = .ok (.aload_n 0, 1) := by decide +kernel
theorem d3_1 : decode jdk_37_method_2_code 1 = .ok (.getfield 7, 3) := by decide +kernel
theorem d3_4 : decode jdk_37_method_2_code 4 = .ok (.ireturn, 1) := by decide +kernel
theorem pn_Enum : plainName "java/lang/Enum" = true := by first | (simp [plainName, overriddenIn]; done) | decide +kernel
theorem ef3 (m : MethodId) (x0 : Addr) : entryFrame m #[(.ref x0)] 1 = mkF m 0 #[.val (.ref x0)] [] := by first | (simp [entryFrame, mkF, argsToLocals, Value.category]; done) | rfl
def Q3 (Z : State) (r0 : Addr) (u1 : Int32) (h0 : Heap) (n0 : Nat) (v : Option Value) (h : Heap) (L : List Loc) : Prop := v = some (.int u1) ∧ Fr n0 L ∧ h = h0
set_option maxRecDepth 65536 in
set_option maxHeartbeats 40000000 in
theorem rm3 (l : Launch) (Z : State) (a0 : Array Value) (hw : ∀ d ∈ tables_1, d.before a0 Z = true) (ws : List Jvm.Cond) (r0 : Addr) (u1 : Int32) (h0 : Heap) (n0 : Nat) (Z0 : n0 ≤ h0.size) (F1 : Fld Z h0 r0 "java/lang/Enum" "ordinal" "I" (.int u1)) :
    MetFree l (⟨"java/lang/Enum", "ordinal", "()I"⟩ : MethodName) (head1 (Jvm.Cond.code (⟨"java/lang/Enum", "ordinal", "()I"⟩ : MethodName) jdk_37_method_2_code 1 (some .int) :: ws) ({ frames := 0, cells := 0, slots := 0, locals := 0 } : Room)) (fun a U => a = #[(.ref r0)] ∧ Z.Warmed39 U.vm ∧ U.heap = h0) (fun _ _ _ _ _ => True) (fun _ U o U' => ∃ v L, o = .returned v ∧ Q3 Z r0 u1 h0 n0 v U'.heap L ∧ FrameEnd U o U' L ({ frames := 0, cells := 0, slots := 0, locals := 0 } : Room).cells ({ frames := 0, cells := 0, slots := 0, locals := 0 } : Room).slots) := by
  refine MetFree.of_bodySF (plainFor_of_name pn_Enum) hisR ?_
  intro p e s m args below meth c s₁ Bd hml0 hP hK
  obtain ⟨rfl, hZ, hh⟩ := hP
  have hx := Bd.exec
  have hby := Bd.bytes
  have hml : c.maxLocals = 1 := hml0
  have hown : s.vm.findClass "java/lang/Enum" = some m.cls := findClass_of_methodNamed Bd.named
  have hnm := (name_of_methodNamed Bd.named Bd.method).1
  have X0 : Stand p l e ({ frames := 0, cells := 0, slots := 0, locals := 0 } : Room) s m #[(.ref r0)] below meth c s₁ [] 0 0 := Stand.of_body Bd
  have e0 : s₁.heap = h0 := by rw [← hh, Bd.state]; rfl
  have N0 := Fr.nil n0
  have pre0 : ∀ t, Steps p.tables e below (s₁.setTop (mkF m 0 #[.val (.ref r0)] [])) t → Steps p.tables e below (s₁.setTop (entryFrame m #[(.ref r0)] 1)) t := fun t k => castTop (ef3 m r0) k
  obtain ⟨T44, X44, e44, st44⟩ := getF X0 hx hZ hown (host := "") (Or.inl (hw _ (List.mem_of_getElem? (i := 26) rfl))) Via.refl e0 F1 (g := (mkF m 1 #[.val (.ref r0)] [(.ref r0)])) rfl rfl (hb hby d3_1)
  obtain ⟨fs, hrT, hrunT, hendT, hWT, hsameT⟩ := X44.leave (v := some (.int u1)) (fun h => by rw [Bd.returns] at h; cases h)
  refine ⟨_, _, pre0 _ ?_, hrunT, hendT, _, _, rfl, ?_, ⟨_, rfl⟩, hWT, hsameT.mono (by decide) (by decide)⟩
  · show Steps p.tables e below (s₁.setTop (mkF m 0 #[.val (.ref r0)] [])) _
    refine XS.aloadN X0.here hx rfl (hb hby d3_0) rfl rfl ?_
    show Steps p.tables e below (s₁.setTop (mkF m 1 #[.val (.ref r0)] [(.ref r0)])) _
    refine st44 _ ?_
    show Steps p.tables e below (T44.setTop (mkF m 4 #[.val (.ref r0)] [(.int u1)])) _
    exact retI X44 hx Bd.returns (hb hby d3_4) hrT
  · show Q3 Z r0 u1 h0 n0 _ T44.heap _
    rw [e44]
    exact ⟨rfl, N0, rfl⟩
theorem d2_0 : decode prog_41_method_14_code 0 = .ok (.aload_n 0, 1) := by decide +kernel
theorem pd___I : parseMethodDescriptor "()I" = some ⟨[], some .int⟩ := by decide +kernel
theorem d2_1 : decode prog_41_method_14_code 1 = .ok (.invokevirtual 122, 3) := by decide +kernel
theorem d2_4 : decode prog_41_method_14_code 4 = .ok (.tableswitch 76 0 14 #[96, 96, 96, 86, 96, 96, 96, 96, 96, 96, 96, 96, 96, 91, 91], 76) := by decide +kernel
theorem d2_100 : decode prog_41_method_14_code 100 = .ok (.iconst 0, 1) := by decide +kernel
theorem d2_101 : decode prog_41_method_14_code 101 = .ok (.ireturn, 1) := by decide +kernel
theorem d2_90 : decode prog_41_method_14_code 90 = .ok (.bipush 20, 2) := by decide +kernel
theorem d2_92 : decode prog_41_method_14_code 92 = .ok (.goto 9, 3) := by decide +kernel
theorem d2_95 : decode prog_41_method_14_code 95 = .ok (.bipush 40, 2) := by decide +kernel
theorem d2_97 : decode prog_41_method_14_code 97 = .ok (.goto 4, 3) := by decide +kernel
theorem pn_PgType : plainName "com/example/gatedb/gatedb/pgwire/PgType" = true := by first | (simp [plainName, overriddenIn]; done) | decide +kernel
def f_ml (u1 : Int32) : Int32 := (if u1 = (0 : Int32) then (0 : Int32) else (if u1 = (1 : Int32) then (0 : Int32) else (if u1 = (2 : Int32) then (0 : Int32) else (if u1 = (3 : Int32) then (20 : Int32) else (if u1 = (4 : Int32) then (0 : Int32) else (if u1 = (5 : Int32) then (0 : Int32) else (if u1 = (6 : Int32) then (0 : Int32) else (if u1 = (7 : Int32) then (0 : Int32) else (if u1 = (8 : Int32) then (0 : Int32) else (if u1 = (9 : Int32) then (0 : Int32) else (if u1 = (10 : Int32) then (0 : Int32) else (if u1 = (11 : Int32) then (0 : Int32) else (if u1 = (12 : Int32) then (0 : Int32) else (if u1 = (13 : Int32) then (40 : Int32) else (40 : Int32)))))))))))))))
theorem ef2 (m : MethodId) (x0 : Addr) : entryFrame m #[(.ref x0)] 1 = mkF m 0 #[.val (.ref x0)] [] := by first | (simp [entryFrame, mkF, argsToLocals, Value.category]; done) | rfl
def Q2 (Z : State) (r0 : Addr) (u1 : Int32) (h0 : Heap) (n0 : Nat) (v : Option Value) (h : Heap) (L : List Loc) : Prop := v = some (.int (f_ml u1)) ∧ Fr n0 L ∧ h = h0
set_option maxRecDepth 65536 in
set_option maxHeartbeats 40000000 in
theorem rm2 (l : Launch) (Z : State) (a0 : Array Value) (hw : ∀ d ∈ tables_1, d.before a0 Z = true) (ws : List Jvm.Cond) (r0 : Addr) (u1 : Int32) (h0 : Heap) (n0 : Nat) (Z0 : n0 ≤ h0.size) (hr : 0 ≤ u1.toInt ∧ u1.toInt < 15) (E1 : Exa Z h0 r0 "com/example/gatedb/gatedb/pgwire/PgType") (F1 : Fld Z h0 r0 "java/lang/Enum" "ordinal" "I" (.int u1)) :
    MetFree l (⟨"com/example/gatedb/gatedb/pgwire/PgType", "maxLength", "()I"⟩ : MethodName) (head1 (Jvm.Cond.code (⟨"com/example/gatedb/gatedb/pgwire/PgType", "maxLength", "()I"⟩ : MethodName) prog_41_method_14_code 1 (some .int) :: ws) ({ frames := 1, cells := 0, slots := 0, locals := 12 } : Room)) (fun a U => a = #[(.ref r0)] ∧ Z.Warmed39 U.vm ∧ U.heap = h0) (fun _ _ _ _ _ => True) (fun _ U o U' => ∃ v L, o = .returned v ∧ Q2 Z r0 u1 h0 n0 v U'.heap L ∧ FrameEnd U o U' L ({ frames := 1, cells := 0, slots := 0, locals := 12 } : Room).cells ({ frames := 1, cells := 0, slots := 0, locals := 12 } : Room).slots) := by
  refine MetFree.of_bodySF (plainFor_of_name pn_PgType) hisR ?_
  intro p e s m args below meth c s₁ Bd hml0 hP hK
  obtain ⟨rfl, hZ, hh⟩ := hP
  have hx := Bd.exec
  have hby := Bd.bytes
  have hml : c.maxLocals = 1 := hml0
  have hown : s.vm.findClass "com/example/gatedb/gatedb/pgwire/PgType" = some m.cls := findClass_of_methodNamed Bd.named
  have hnm := (name_of_methodNamed Bd.named Bd.method).1
  have X0 : Stand p l e ({ frames := 1, cells := 0, slots := 0, locals := 12 } : Room) s m #[(.ref r0)] below meth c s₁ [] 0 0 := Stand.of_body Bd
  have e0 : s₁.heap = h0 := by rw [← hh, Bd.state]; rfl
  have N0 := Fr.nil n0
  have pre0 : ∀ t, Steps p.tables e below (s₁.setTop (mkF m 0 #[.val (.ref r0)] [])) t → Steps p.tables e below (s₁.setTop (entryFrame m #[(.ref r0)] 1)) t := fun t k => castTop (ef2 m r0) k
  obtain ⟨cq45, kq45, q45a, q45b, q45c⟩ := isOf hZ e0 E1
  obtain ⟨_, _, ⟨T45, L45, k45, n45⟩, -, X45, ⟨Lc45, hQ45, l45, y45, z45⟩, st45⟩ := X0.virtualBackUp hx (x := (⟨"com/example/gatedb/gatedb/pgwire/PgType", "ordinal", "()I"⟩ : MethodName)) (y := (⟨"java/lang/Enum", "ordinal", "()I"⟩ : MethodName)) hown (mvT hZ (hw _ (List.mem_of_getElem? (i := 19) rfl))) (mvT hZ (hw _ (List.mem_of_getElem? (i := 20) rfl))) (mvT hZ (hw _ (List.mem_of_getElem? (i := 21) rfl))) (by decide) (mvT hZ (hw _ (List.mem_of_getElem? (i := 23) rfl))) (mvT hZ (hw _ (List.mem_of_getElem? (i := 22) rfl))) (backOf (W := 0) (rm3 l Z a0 hw [] r0 u1 h0 n0 Z0 F1) hZ (hw _ (List.mem_of_getElem? (i := 25) rfl)) (hw _ (List.mem_of_getElem? (i := 24) rfl)) (by decide) (by decide)) q45a q45c (g := (mkF m 1 #[.val (.ref r0)] [(.ref r0)])) rfl (by rw [hml]; rfl) (Steps.refl _) (argsL := []) (rest := []) (lenOf pd___I rfl) rfl (by show 2 * 0 + _ ≤ _; exact Nat.le_of_eq rfl) (hb hby d2_1) (fun _ _ => ⟨rfl, e0, (by decide : 0 + 0 ≤ _), (by decide : 0 + 0 ≤ _)⟩)
  dsimp only [Pt.U, Pt.locs, Pt.cells, Pt.slots] at X45 l45 y45 z45 st45 hQ45
  subst l45 y45 z45
  obtain ⟨rfl, Nq45, e45⟩ := hQ45
  have N45 := Fr.app N0 Nq45
  have S46 : ∀ t, Steps p.tables e below (T45.setTop (mkF m 4 #[.val (.ref r0)] [(.int u1)])) t → Steps p.tables e below (s₁.setTop (entryFrame m #[(.ref r0)] 1)) t := by
    intro t kt
    refine pre0 _ ?_
    show Steps p.tables e below (s₁.setTop (mkF m 0 #[.val (.ref r0)] [])) _
    refine XS.aloadN X0.here hx rfl (hb hby d2_0) rfl rfl ?_
    show Steps p.tables e below (s₁.setTop (mkF m 1 #[.val (.ref r0)] [(.ref r0)])) _
    refine st45.trans ?_
    exact kt
  rcases own_or u1 hr with hq4_47 | hq4_48 | hq4_49 | hq4_50 | hq4_51 | hq4_52 | hq4_53 | hq4_54 | hq4_55 | hq4_56 | hq4_57 | hq4_58 | hq4_59 | hq4_60 | hq4_61
  · skip
    obtain ⟨fs, hrT, hrunT, hendT, hWT, hsameT⟩ := X45.leave (v := some (.int (0 : Int32))) (fun h => by rw [Bd.returns] at h; cases h)
    refine ⟨_, _, S46 _ ?_, hrunT, hendT, _, _, rfl, ?_, ⟨_, rfl⟩, hWT, hsameT.mono (by decide) (by decide)⟩
    · show Steps p.tables e below (T45.setTop (mkF m 4 #[.val (.ref r0)] [(.int u1)])) _
      refine XS.tswIn X45.here hx rfl (pc0 := 4) (pc' := 100) rfl (hb hby d2_4) rfl (by rw [hq4_47]; decide) (by rw [hq4_47]; rfl) (by decide) (by decide) ?_
      show Steps p.tables e below (T45.setTop (mkF m 100 #[.val (.ref r0)] [])) _
      refine XS.iconst X45.here hx rfl (hb hby d2_100) ?_
      show Steps p.tables e below (T45.setTop (mkF m 101 #[.val (.ref r0)] [(.int (0 : Int32))])) _
      exact retI X45 hx Bd.returns (hb hby d2_101) hrT
    · show Q2 Z r0 u1 h0 n0 _ T45.heap _
      rw [e45]
      have hv : f_ml u1 = (0 : Int32) := by unfold f_ml; rw [if_pos hq4_47]
      exact ⟨(congrArg (fun z => some (Value.int z)) hv.symm), N45, rfl⟩
  · skip
    have hq4_48_0 : ¬ u1 = (0 : Int32) := by rw [hq4_48]; decide
    obtain ⟨fs, hrT, hrunT, hendT, hWT, hsameT⟩ := X45.leave (v := some (.int (0 : Int32))) (fun h => by rw [Bd.returns] at h; cases h)
    refine ⟨_, _, S46 _ ?_, hrunT, hendT, _, _, rfl, ?_, ⟨_, rfl⟩, hWT, hsameT.mono (by decide) (by decide)⟩
    · show Steps p.tables e below (T45.setTop (mkF m 4 #[.val (.ref r0)] [(.int u1)])) _
      refine XS.tswIn X45.here hx rfl (pc0 := 4) (pc' := 100) rfl (hb hby d2_4) rfl (by rw [hq4_48]; decide) (by rw [hq4_48]; rfl) (by decide) (by decide) ?_
      show Steps p.tables e below (T45.setTop (mkF m 100 #[.val (.ref r0)] [])) _
      refine XS.iconst X45.here hx rfl (hb hby d2_100) ?_
      show Steps p.tables e below (T45.setTop (mkF m 101 #[.val (.ref r0)] [(.int (0 : Int32))])) _
      exact retI X45 hx Bd.returns (hb hby d2_101) hrT
    · show Q2 Z r0 u1 h0 n0 _ T45.heap _
      rw [e45]
      have hv : f_ml u1 = (0 : Int32) := by unfold f_ml; rw [if_neg hq4_48_0]; rw [if_pos hq4_48]
      exact ⟨(congrArg (fun z => some (Value.int z)) hv.symm), N45, rfl⟩
  · skip
    have hq4_49_0 : ¬ u1 = (0 : Int32) := by rw [hq4_49]; decide
    have hq4_49_1 : ¬ u1 = (1 : Int32) := by rw [hq4_49]; decide
    obtain ⟨fs, hrT, hrunT, hendT, hWT, hsameT⟩ := X45.leave (v := some (.int (0 : Int32))) (fun h => by rw [Bd.returns] at h; cases h)
    refine ⟨_, _, S46 _ ?_, hrunT, hendT, _, _, rfl, ?_, ⟨_, rfl⟩, hWT, hsameT.mono (by decide) (by decide)⟩
    · show Steps p.tables e below (T45.setTop (mkF m 4 #[.val (.ref r0)] [(.int u1)])) _
      refine XS.tswIn X45.here hx rfl (pc0 := 4) (pc' := 100) rfl (hb hby d2_4) rfl (by rw [hq4_49]; decide) (by rw [hq4_49]; rfl) (by decide) (by decide) ?_
      show Steps p.tables e below (T45.setTop (mkF m 100 #[.val (.ref r0)] [])) _
      refine XS.iconst X45.here hx rfl (hb hby d2_100) ?_
      show Steps p.tables e below (T45.setTop (mkF m 101 #[.val (.ref r0)] [(.int (0 : Int32))])) _
      exact retI X45 hx Bd.returns (hb hby d2_101) hrT
    · show Q2 Z r0 u1 h0 n0 _ T45.heap _
      rw [e45]
      have hv : f_ml u1 = (0 : Int32) := by unfold f_ml; rw [if_neg hq4_49_0]; rw [if_neg hq4_49_1]; rw [if_pos hq4_49]
      exact ⟨(congrArg (fun z => some (Value.int z)) hv.symm), N45, rfl⟩
  · skip
    have hq4_50_0 : ¬ u1 = (0 : Int32) := by rw [hq4_50]; decide
    have hq4_50_1 : ¬ u1 = (1 : Int32) := by rw [hq4_50]; decide
    have hq4_50_2 : ¬ u1 = (2 : Int32) := by rw [hq4_50]; decide
    obtain ⟨fs, hrT, hrunT, hendT, hWT, hsameT⟩ := X45.leave (v := some (.int (20 : Int32))) (fun h => by rw [Bd.returns] at h; cases h)
    refine ⟨_, _, S46 _ ?_, hrunT, hendT, _, _, rfl, ?_, ⟨_, rfl⟩, hWT, hsameT.mono (by decide) (by decide)⟩
    · show Steps p.tables e below (T45.setTop (mkF m 4 #[.val (.ref r0)] [(.int u1)])) _
      refine XS.tswIn X45.here hx rfl (pc0 := 4) (pc' := 90) rfl (hb hby d2_4) rfl (by rw [hq4_50]; decide) (by rw [hq4_50]; rfl) (by decide) (by decide) ?_
      show Steps p.tables e below (T45.setTop (mkF m 90 #[.val (.ref r0)] [])) _
      refine XS.bipush X45.here hx rfl (hb hby d2_90) ?_
      show Steps p.tables e below (T45.setTop (mkF m 92 #[.val (.ref r0)] [(.int (20 : Int32))])) _
      refine XS.goto X45.here hx rfl (pc0 := 92) (pc' := 101) rfl (hb hby d2_92) (by decide) (by decide) ?_
      show Steps p.tables e below (T45.setTop (mkF m 101 #[.val (.ref r0)] [(.int (20 : Int32))])) _
      exact retI X45 hx Bd.returns (hb hby d2_101) hrT
    · show Q2 Z r0 u1 h0 n0 _ T45.heap _
      rw [e45]
      have hv : f_ml u1 = (20 : Int32) := by unfold f_ml; rw [if_neg hq4_50_0]; rw [if_neg hq4_50_1]; rw [if_neg hq4_50_2]; rw [if_pos hq4_50]
      exact ⟨(congrArg (fun z => some (Value.int z)) hv.symm), N45, rfl⟩
  · skip
    have hq4_51_0 : ¬ u1 = (0 : Int32) := by rw [hq4_51]; decide
    have hq4_51_1 : ¬ u1 = (1 : Int32) := by rw [hq4_51]; decide
    have hq4_51_2 : ¬ u1 = (2 : Int32) := by rw [hq4_51]; decide
    have hq4_51_3 : ¬ u1 = (3 : Int32) := by rw [hq4_51]; decide
    obtain ⟨fs, hrT, hrunT, hendT, hWT, hsameT⟩ := X45.leave (v := some (.int (0 : Int32))) (fun h => by rw [Bd.returns] at h; cases h)
    refine ⟨_, _, S46 _ ?_, hrunT, hendT, _, _, rfl, ?_, ⟨_, rfl⟩, hWT, hsameT.mono (by decide) (by decide)⟩
    · show Steps p.tables e below (T45.setTop (mkF m 4 #[.val (.ref r0)] [(.int u1)])) _
      refine XS.tswIn X45.here hx rfl (pc0 := 4) (pc' := 100) rfl (hb hby d2_4) rfl (by rw [hq4_51]; decide) (by rw [hq4_51]; rfl) (by decide) (by decide) ?_
      show Steps p.tables e below (T45.setTop (mkF m 100 #[.val (.ref r0)] [])) _
      refine XS.iconst X45.here hx rfl (hb hby d2_100) ?_
      show Steps p.tables e below (T45.setTop (mkF m 101 #[.val (.ref r0)] [(.int (0 : Int32))])) _
      exact retI X45 hx Bd.returns (hb hby d2_101) hrT
    · show Q2 Z r0 u1 h0 n0 _ T45.heap _
      rw [e45]
      have hv : f_ml u1 = (0 : Int32) := by unfold f_ml; rw [if_neg hq4_51_0]; rw [if_neg hq4_51_1]; rw [if_neg hq4_51_2]; rw [if_neg hq4_51_3]; rw [if_pos hq4_51]
      exact ⟨(congrArg (fun z => some (Value.int z)) hv.symm), N45, rfl⟩
  · skip
    have hq4_52_0 : ¬ u1 = (0 : Int32) := by rw [hq4_52]; decide
    have hq4_52_1 : ¬ u1 = (1 : Int32) := by rw [hq4_52]; decide
    have hq4_52_2 : ¬ u1 = (2 : Int32) := by rw [hq4_52]; decide
    have hq4_52_3 : ¬ u1 = (3 : Int32) := by rw [hq4_52]; decide
    have hq4_52_4 : ¬ u1 = (4 : Int32) := by rw [hq4_52]; decide
    obtain ⟨fs, hrT, hrunT, hendT, hWT, hsameT⟩ := X45.leave (v := some (.int (0 : Int32))) (fun h => by rw [Bd.returns] at h; cases h)
    refine ⟨_, _, S46 _ ?_, hrunT, hendT, _, _, rfl, ?_, ⟨_, rfl⟩, hWT, hsameT.mono (by decide) (by decide)⟩
    · show Steps p.tables e below (T45.setTop (mkF m 4 #[.val (.ref r0)] [(.int u1)])) _
      refine XS.tswIn X45.here hx rfl (pc0 := 4) (pc' := 100) rfl (hb hby d2_4) rfl (by rw [hq4_52]; decide) (by rw [hq4_52]; rfl) (by decide) (by decide) ?_
      show Steps p.tables e below (T45.setTop (mkF m 100 #[.val (.ref r0)] [])) _
      refine XS.iconst X45.here hx rfl (hb hby d2_100) ?_
      show Steps p.tables e below (T45.setTop (mkF m 101 #[.val (.ref r0)] [(.int (0 : Int32))])) _
      exact retI X45 hx Bd.returns (hb hby d2_101) hrT
    · show Q2 Z r0 u1 h0 n0 _ T45.heap _
      rw [e45]
      have hv : f_ml u1 = (0 : Int32) := by unfold f_ml; rw [if_neg hq4_52_0]; rw [if_neg hq4_52_1]; rw [if_neg hq4_52_2]; rw [if_neg hq4_52_3]; rw [if_neg hq4_52_4]; rw [if_pos hq4_52]
      exact ⟨(congrArg (fun z => some (Value.int z)) hv.symm), N45, rfl⟩
  · skip
    have hq4_53_0 : ¬ u1 = (0 : Int32) := by rw [hq4_53]; decide
    have hq4_53_1 : ¬ u1 = (1 : Int32) := by rw [hq4_53]; decide
    have hq4_53_2 : ¬ u1 = (2 : Int32) := by rw [hq4_53]; decide
    have hq4_53_3 : ¬ u1 = (3 : Int32) := by rw [hq4_53]; decide
    have hq4_53_4 : ¬ u1 = (4 : Int32) := by rw [hq4_53]; decide
    have hq4_53_5 : ¬ u1 = (5 : Int32) := by rw [hq4_53]; decide
    obtain ⟨fs, hrT, hrunT, hendT, hWT, hsameT⟩ := X45.leave (v := some (.int (0 : Int32))) (fun h => by rw [Bd.returns] at h; cases h)
    refine ⟨_, _, S46 _ ?_, hrunT, hendT, _, _, rfl, ?_, ⟨_, rfl⟩, hWT, hsameT.mono (by decide) (by decide)⟩
    · show Steps p.tables e below (T45.setTop (mkF m 4 #[.val (.ref r0)] [(.int u1)])) _
      refine XS.tswIn X45.here hx rfl (pc0 := 4) (pc' := 100) rfl (hb hby d2_4) rfl (by rw [hq4_53]; decide) (by rw [hq4_53]; rfl) (by decide) (by decide) ?_
      show Steps p.tables e below (T45.setTop (mkF m 100 #[.val (.ref r0)] [])) _
      refine XS.iconst X45.here hx rfl (hb hby d2_100) ?_
      show Steps p.tables e below (T45.setTop (mkF m 101 #[.val (.ref r0)] [(.int (0 : Int32))])) _
      exact retI X45 hx Bd.returns (hb hby d2_101) hrT
    · show Q2 Z r0 u1 h0 n0 _ T45.heap _
      rw [e45]
      have hv : f_ml u1 = (0 : Int32) := by unfold f_ml; rw [if_neg hq4_53_0]; rw [if_neg hq4_53_1]; rw [if_neg hq4_53_2]; rw [if_neg hq4_53_3]; rw [if_neg hq4_53_4]; rw [if_neg hq4_53_5]; rw [if_pos hq4_53]
      exact ⟨(congrArg (fun z => some (Value.int z)) hv.symm), N45, rfl⟩
  · skip
    have hq4_54_0 : ¬ u1 = (0 : Int32) := by rw [hq4_54]; decide
    have hq4_54_1 : ¬ u1 = (1 : Int32) := by rw [hq4_54]; decide
    have hq4_54_2 : ¬ u1 = (2 : Int32) := by rw [hq4_54]; decide
    have hq4_54_3 : ¬ u1 = (3 : Int32) := by rw [hq4_54]; decide
    have hq4_54_4 : ¬ u1 = (4 : Int32) := by rw [hq4_54]; decide
    have hq4_54_5 : ¬ u1 = (5 : Int32) := by rw [hq4_54]; decide
    have hq4_54_6 : ¬ u1 = (6 : Int32) := by rw [hq4_54]; decide
    obtain ⟨fs, hrT, hrunT, hendT, hWT, hsameT⟩ := X45.leave (v := some (.int (0 : Int32))) (fun h => by rw [Bd.returns] at h; cases h)
    refine ⟨_, _, S46 _ ?_, hrunT, hendT, _, _, rfl, ?_, ⟨_, rfl⟩, hWT, hsameT.mono (by decide) (by decide)⟩
    · show Steps p.tables e below (T45.setTop (mkF m 4 #[.val (.ref r0)] [(.int u1)])) _
      refine XS.tswIn X45.here hx rfl (pc0 := 4) (pc' := 100) rfl (hb hby d2_4) rfl (by rw [hq4_54]; decide) (by rw [hq4_54]; rfl) (by decide) (by decide) ?_
      show Steps p.tables e below (T45.setTop (mkF m 100 #[.val (.ref r0)] [])) _
      refine XS.iconst X45.here hx rfl (hb hby d2_100) ?_
      show Steps p.tables e below (T45.setTop (mkF m 101 #[.val (.ref r0)] [(.int (0 : Int32))])) _
      exact retI X45 hx Bd.returns (hb hby d2_101) hrT
    · show Q2 Z r0 u1 h0 n0 _ T45.heap _
      rw [e45]
      have hv : f_ml u1 = (0 : Int32) := by unfold f_ml; rw [if_neg hq4_54_0]; rw [if_neg hq4_54_1]; rw [if_neg hq4_54_2]; rw [if_neg hq4_54_3]; rw [if_neg hq4_54_4]; rw [if_neg hq4_54_5]; rw [if_neg hq4_54_6]; rw [if_pos hq4_54]
      exact ⟨(congrArg (fun z => some (Value.int z)) hv.symm), N45, rfl⟩
  · skip
    have hq4_55_0 : ¬ u1 = (0 : Int32) := by rw [hq4_55]; decide
    have hq4_55_1 : ¬ u1 = (1 : Int32) := by rw [hq4_55]; decide
    have hq4_55_2 : ¬ u1 = (2 : Int32) := by rw [hq4_55]; decide
    have hq4_55_3 : ¬ u1 = (3 : Int32) := by rw [hq4_55]; decide
    have hq4_55_4 : ¬ u1 = (4 : Int32) := by rw [hq4_55]; decide
    have hq4_55_5 : ¬ u1 = (5 : Int32) := by rw [hq4_55]; decide
    have hq4_55_6 : ¬ u1 = (6 : Int32) := by rw [hq4_55]; decide
    have hq4_55_7 : ¬ u1 = (7 : Int32) := by rw [hq4_55]; decide
    obtain ⟨fs, hrT, hrunT, hendT, hWT, hsameT⟩ := X45.leave (v := some (.int (0 : Int32))) (fun h => by rw [Bd.returns] at h; cases h)
    refine ⟨_, _, S46 _ ?_, hrunT, hendT, _, _, rfl, ?_, ⟨_, rfl⟩, hWT, hsameT.mono (by decide) (by decide)⟩
    · show Steps p.tables e below (T45.setTop (mkF m 4 #[.val (.ref r0)] [(.int u1)])) _
      refine XS.tswIn X45.here hx rfl (pc0 := 4) (pc' := 100) rfl (hb hby d2_4) rfl (by rw [hq4_55]; decide) (by rw [hq4_55]; rfl) (by decide) (by decide) ?_
      show Steps p.tables e below (T45.setTop (mkF m 100 #[.val (.ref r0)] [])) _
      refine XS.iconst X45.here hx rfl (hb hby d2_100) ?_
      show Steps p.tables e below (T45.setTop (mkF m 101 #[.val (.ref r0)] [(.int (0 : Int32))])) _
      exact retI X45 hx Bd.returns (hb hby d2_101) hrT
    · show Q2 Z r0 u1 h0 n0 _ T45.heap _
      rw [e45]
      have hv : f_ml u1 = (0 : Int32) := by unfold f_ml; rw [if_neg hq4_55_0]; rw [if_neg hq4_55_1]; rw [if_neg hq4_55_2]; rw [if_neg hq4_55_3]; rw [if_neg hq4_55_4]; rw [if_neg hq4_55_5]; rw [if_neg hq4_55_6]; rw [if_neg hq4_55_7]; rw [if_pos hq4_55]
      exact ⟨(congrArg (fun z => some (Value.int z)) hv.symm), N45, rfl⟩
  · skip
    have hq4_56_0 : ¬ u1 = (0 : Int32) := by rw [hq4_56]; decide
    have hq4_56_1 : ¬ u1 = (1 : Int32) := by rw [hq4_56]; decide
    have hq4_56_2 : ¬ u1 = (2 : Int32) := by rw [hq4_56]; decide
    have hq4_56_3 : ¬ u1 = (3 : Int32) := by rw [hq4_56]; decide
    have hq4_56_4 : ¬ u1 = (4 : Int32) := by rw [hq4_56]; decide
    have hq4_56_5 : ¬ u1 = (5 : Int32) := by rw [hq4_56]; decide
    have hq4_56_6 : ¬ u1 = (6 : Int32) := by rw [hq4_56]; decide
    have hq4_56_7 : ¬ u1 = (7 : Int32) := by rw [hq4_56]; decide
    have hq4_56_8 : ¬ u1 = (8 : Int32) := by rw [hq4_56]; decide
    obtain ⟨fs, hrT, hrunT, hendT, hWT, hsameT⟩ := X45.leave (v := some (.int (0 : Int32))) (fun h => by rw [Bd.returns] at h; cases h)
    refine ⟨_, _, S46 _ ?_, hrunT, hendT, _, _, rfl, ?_, ⟨_, rfl⟩, hWT, hsameT.mono (by decide) (by decide)⟩
    · show Steps p.tables e below (T45.setTop (mkF m 4 #[.val (.ref r0)] [(.int u1)])) _
      refine XS.tswIn X45.here hx rfl (pc0 := 4) (pc' := 100) rfl (hb hby d2_4) rfl (by rw [hq4_56]; decide) (by rw [hq4_56]; rfl) (by decide) (by decide) ?_
      show Steps p.tables e below (T45.setTop (mkF m 100 #[.val (.ref r0)] [])) _
      refine XS.iconst X45.here hx rfl (hb hby d2_100) ?_
      show Steps p.tables e below (T45.setTop (mkF m 101 #[.val (.ref r0)] [(.int (0 : Int32))])) _
      exact retI X45 hx Bd.returns (hb hby d2_101) hrT
    · show Q2 Z r0 u1 h0 n0 _ T45.heap _
      rw [e45]
      have hv : f_ml u1 = (0 : Int32) := by unfold f_ml; rw [if_neg hq4_56_0]; rw [if_neg hq4_56_1]; rw [if_neg hq4_56_2]; rw [if_neg hq4_56_3]; rw [if_neg hq4_56_4]; rw [if_neg hq4_56_5]; rw [if_neg hq4_56_6]; rw [if_neg hq4_56_7]; rw [if_neg hq4_56_8]; rw [if_pos hq4_56]
      exact ⟨(congrArg (fun z => some (Value.int z)) hv.symm), N45, rfl⟩
  · skip
    have hq4_57_0 : ¬ u1 = (0 : Int32) := by rw [hq4_57]; decide
    have hq4_57_1 : ¬ u1 = (1 : Int32) := by rw [hq4_57]; decide
    have hq4_57_2 : ¬ u1 = (2 : Int32) := by rw [hq4_57]; decide
    have hq4_57_3 : ¬ u1 = (3 : Int32) := by rw [hq4_57]; decide
    have hq4_57_4 : ¬ u1 = (4 : Int32) := by rw [hq4_57]; decide
    have hq4_57_5 : ¬ u1 = (5 : Int32) := by rw [hq4_57]; decide
    have hq4_57_6 : ¬ u1 = (6 : Int32) := by rw [hq4_57]; decide
    have hq4_57_7 : ¬ u1 = (7 : Int32) := by rw [hq4_57]; decide
    have hq4_57_8 : ¬ u1 = (8 : Int32) := by rw [hq4_57]; decide
    have hq4_57_9 : ¬ u1 = (9 : Int32) := by rw [hq4_57]; decide
    obtain ⟨fs, hrT, hrunT, hendT, hWT, hsameT⟩ := X45.leave (v := some (.int (0 : Int32))) (fun h => by rw [Bd.returns] at h; cases h)
    refine ⟨_, _, S46 _ ?_, hrunT, hendT, _, _, rfl, ?_, ⟨_, rfl⟩, hWT, hsameT.mono (by decide) (by decide)⟩
    · show Steps p.tables e below (T45.setTop (mkF m 4 #[.val (.ref r0)] [(.int u1)])) _
      refine XS.tswIn X45.here hx rfl (pc0 := 4) (pc' := 100) rfl (hb hby d2_4) rfl (by rw [hq4_57]; decide) (by rw [hq4_57]; rfl) (by decide) (by decide) ?_
      show Steps p.tables e below (T45.setTop (mkF m 100 #[.val (.ref r0)] [])) _
      refine XS.iconst X45.here hx rfl (hb hby d2_100) ?_
      show Steps p.tables e below (T45.setTop (mkF m 101 #[.val (.ref r0)] [(.int (0 : Int32))])) _
      exact retI X45 hx Bd.returns (hb hby d2_101) hrT
    · show Q2 Z r0 u1 h0 n0 _ T45.heap _
      rw [e45]
      have hv : f_ml u1 = (0 : Int32) := by unfold f_ml; rw [if_neg hq4_57_0]; rw [if_neg hq4_57_1]; rw [if_neg hq4_57_2]; rw [if_neg hq4_57_3]; rw [if_neg hq4_57_4]; rw [if_neg hq4_57_5]; rw [if_neg hq4_57_6]; rw [if_neg hq4_57_7]; rw [if_neg hq4_57_8]; rw [if_neg hq4_57_9]; rw [if_pos hq4_57]
      exact ⟨(congrArg (fun z => some (Value.int z)) hv.symm), N45, rfl⟩
  · skip
    have hq4_58_0 : ¬ u1 = (0 : Int32) := by rw [hq4_58]; decide
    have hq4_58_1 : ¬ u1 = (1 : Int32) := by rw [hq4_58]; decide
    have hq4_58_2 : ¬ u1 = (2 : Int32) := by rw [hq4_58]; decide
    have hq4_58_3 : ¬ u1 = (3 : Int32) := by rw [hq4_58]; decide
    have hq4_58_4 : ¬ u1 = (4 : Int32) := by rw [hq4_58]; decide
    have hq4_58_5 : ¬ u1 = (5 : Int32) := by rw [hq4_58]; decide
    have hq4_58_6 : ¬ u1 = (6 : Int32) := by rw [hq4_58]; decide
    have hq4_58_7 : ¬ u1 = (7 : Int32) := by rw [hq4_58]; decide
    have hq4_58_8 : ¬ u1 = (8 : Int32) := by rw [hq4_58]; decide
    have hq4_58_9 : ¬ u1 = (9 : Int32) := by rw [hq4_58]; decide
    have hq4_58_10 : ¬ u1 = (10 : Int32) := by rw [hq4_58]; decide
    obtain ⟨fs, hrT, hrunT, hendT, hWT, hsameT⟩ := X45.leave (v := some (.int (0 : Int32))) (fun h => by rw [Bd.returns] at h; cases h)
    refine ⟨_, _, S46 _ ?_, hrunT, hendT, _, _, rfl, ?_, ⟨_, rfl⟩, hWT, hsameT.mono (by decide) (by decide)⟩
    · show Steps p.tables e below (T45.setTop (mkF m 4 #[.val (.ref r0)] [(.int u1)])) _
      refine XS.tswIn X45.here hx rfl (pc0 := 4) (pc' := 100) rfl (hb hby d2_4) rfl (by rw [hq4_58]; decide) (by rw [hq4_58]; rfl) (by decide) (by decide) ?_
      show Steps p.tables e below (T45.setTop (mkF m 100 #[.val (.ref r0)] [])) _
      refine XS.iconst X45.here hx rfl (hb hby d2_100) ?_
      show Steps p.tables e below (T45.setTop (mkF m 101 #[.val (.ref r0)] [(.int (0 : Int32))])) _
      exact retI X45 hx Bd.returns (hb hby d2_101) hrT
    · show Q2 Z r0 u1 h0 n0 _ T45.heap _
      rw [e45]
      have hv : f_ml u1 = (0 : Int32) := by unfold f_ml; rw [if_neg hq4_58_0]; rw [if_neg hq4_58_1]; rw [if_neg hq4_58_2]; rw [if_neg hq4_58_3]; rw [if_neg hq4_58_4]; rw [if_neg hq4_58_5]; rw [if_neg hq4_58_6]; rw [if_neg hq4_58_7]; rw [if_neg hq4_58_8]; rw [if_neg hq4_58_9]; rw [if_neg hq4_58_10]; rw [if_pos hq4_58]
      exact ⟨(congrArg (fun z => some (Value.int z)) hv.symm), N45, rfl⟩
  · skip
    have hq4_59_0 : ¬ u1 = (0 : Int32) := by rw [hq4_59]; decide
    have hq4_59_1 : ¬ u1 = (1 : Int32) := by rw [hq4_59]; decide
    have hq4_59_2 : ¬ u1 = (2 : Int32) := by rw [hq4_59]; decide
    have hq4_59_3 : ¬ u1 = (3 : Int32) := by rw [hq4_59]; decide
    have hq4_59_4 : ¬ u1 = (4 : Int32) := by rw [hq4_59]; decide
    have hq4_59_5 : ¬ u1 = (5 : Int32) := by rw [hq4_59]; decide
    have hq4_59_6 : ¬ u1 = (6 : Int32) := by rw [hq4_59]; decide
    have hq4_59_7 : ¬ u1 = (7 : Int32) := by rw [hq4_59]; decide
    have hq4_59_8 : ¬ u1 = (8 : Int32) := by rw [hq4_59]; decide
    have hq4_59_9 : ¬ u1 = (9 : Int32) := by rw [hq4_59]; decide
    have hq4_59_10 : ¬ u1 = (10 : Int32) := by rw [hq4_59]; decide
    have hq4_59_11 : ¬ u1 = (11 : Int32) := by rw [hq4_59]; decide
    obtain ⟨fs, hrT, hrunT, hendT, hWT, hsameT⟩ := X45.leave (v := some (.int (0 : Int32))) (fun h => by rw [Bd.returns] at h; cases h)
    refine ⟨_, _, S46 _ ?_, hrunT, hendT, _, _, rfl, ?_, ⟨_, rfl⟩, hWT, hsameT.mono (by decide) (by decide)⟩
    · show Steps p.tables e below (T45.setTop (mkF m 4 #[.val (.ref r0)] [(.int u1)])) _
      refine XS.tswIn X45.here hx rfl (pc0 := 4) (pc' := 100) rfl (hb hby d2_4) rfl (by rw [hq4_59]; decide) (by rw [hq4_59]; rfl) (by decide) (by decide) ?_
      show Steps p.tables e below (T45.setTop (mkF m 100 #[.val (.ref r0)] [])) _
      refine XS.iconst X45.here hx rfl (hb hby d2_100) ?_
      show Steps p.tables e below (T45.setTop (mkF m 101 #[.val (.ref r0)] [(.int (0 : Int32))])) _
      exact retI X45 hx Bd.returns (hb hby d2_101) hrT
    · show Q2 Z r0 u1 h0 n0 _ T45.heap _
      rw [e45]
      have hv : f_ml u1 = (0 : Int32) := by unfold f_ml; rw [if_neg hq4_59_0]; rw [if_neg hq4_59_1]; rw [if_neg hq4_59_2]; rw [if_neg hq4_59_3]; rw [if_neg hq4_59_4]; rw [if_neg hq4_59_5]; rw [if_neg hq4_59_6]; rw [if_neg hq4_59_7]; rw [if_neg hq4_59_8]; rw [if_neg hq4_59_9]; rw [if_neg hq4_59_10]; rw [if_neg hq4_59_11]; rw [if_pos hq4_59]
      exact ⟨(congrArg (fun z => some (Value.int z)) hv.symm), N45, rfl⟩
  · skip
    have hq4_60_0 : ¬ u1 = (0 : Int32) := by rw [hq4_60]; decide
    have hq4_60_1 : ¬ u1 = (1 : Int32) := by rw [hq4_60]; decide
    have hq4_60_2 : ¬ u1 = (2 : Int32) := by rw [hq4_60]; decide
    have hq4_60_3 : ¬ u1 = (3 : Int32) := by rw [hq4_60]; decide
    have hq4_60_4 : ¬ u1 = (4 : Int32) := by rw [hq4_60]; decide
    have hq4_60_5 : ¬ u1 = (5 : Int32) := by rw [hq4_60]; decide
    have hq4_60_6 : ¬ u1 = (6 : Int32) := by rw [hq4_60]; decide
    have hq4_60_7 : ¬ u1 = (7 : Int32) := by rw [hq4_60]; decide
    have hq4_60_8 : ¬ u1 = (8 : Int32) := by rw [hq4_60]; decide
    have hq4_60_9 : ¬ u1 = (9 : Int32) := by rw [hq4_60]; decide
    have hq4_60_10 : ¬ u1 = (10 : Int32) := by rw [hq4_60]; decide
    have hq4_60_11 : ¬ u1 = (11 : Int32) := by rw [hq4_60]; decide
    have hq4_60_12 : ¬ u1 = (12 : Int32) := by rw [hq4_60]; decide
    obtain ⟨fs, hrT, hrunT, hendT, hWT, hsameT⟩ := X45.leave (v := some (.int (40 : Int32))) (fun h => by rw [Bd.returns] at h; cases h)
    refine ⟨_, _, S46 _ ?_, hrunT, hendT, _, _, rfl, ?_, ⟨_, rfl⟩, hWT, hsameT.mono (by decide) (by decide)⟩
    · show Steps p.tables e below (T45.setTop (mkF m 4 #[.val (.ref r0)] [(.int u1)])) _
      refine XS.tswIn X45.here hx rfl (pc0 := 4) (pc' := 95) rfl (hb hby d2_4) rfl (by rw [hq4_60]; decide) (by rw [hq4_60]; rfl) (by decide) (by decide) ?_
      show Steps p.tables e below (T45.setTop (mkF m 95 #[.val (.ref r0)] [])) _
      refine XS.bipush X45.here hx rfl (hb hby d2_95) ?_
      show Steps p.tables e below (T45.setTop (mkF m 97 #[.val (.ref r0)] [(.int (40 : Int32))])) _
      refine XS.goto X45.here hx rfl (pc0 := 97) (pc' := 101) rfl (hb hby d2_97) (by decide) (by decide) ?_
      show Steps p.tables e below (T45.setTop (mkF m 101 #[.val (.ref r0)] [(.int (40 : Int32))])) _
      exact retI X45 hx Bd.returns (hb hby d2_101) hrT
    · show Q2 Z r0 u1 h0 n0 _ T45.heap _
      rw [e45]
      have hv : f_ml u1 = (40 : Int32) := by unfold f_ml; rw [if_neg hq4_60_0]; rw [if_neg hq4_60_1]; rw [if_neg hq4_60_2]; rw [if_neg hq4_60_3]; rw [if_neg hq4_60_4]; rw [if_neg hq4_60_5]; rw [if_neg hq4_60_6]; rw [if_neg hq4_60_7]; rw [if_neg hq4_60_8]; rw [if_neg hq4_60_9]; rw [if_neg hq4_60_10]; rw [if_neg hq4_60_11]; rw [if_neg hq4_60_12]; rw [if_pos hq4_60]
      exact ⟨(congrArg (fun z => some (Value.int z)) hv.symm), N45, rfl⟩
  · skip
    have hq4_61_0 : ¬ u1 = (0 : Int32) := by rw [hq4_61]; decide
    have hq4_61_1 : ¬ u1 = (1 : Int32) := by rw [hq4_61]; decide
    have hq4_61_2 : ¬ u1 = (2 : Int32) := by rw [hq4_61]; decide
    have hq4_61_3 : ¬ u1 = (3 : Int32) := by rw [hq4_61]; decide
    have hq4_61_4 : ¬ u1 = (4 : Int32) := by rw [hq4_61]; decide
    have hq4_61_5 : ¬ u1 = (5 : Int32) := by rw [hq4_61]; decide
    have hq4_61_6 : ¬ u1 = (6 : Int32) := by rw [hq4_61]; decide
    have hq4_61_7 : ¬ u1 = (7 : Int32) := by rw [hq4_61]; decide
    have hq4_61_8 : ¬ u1 = (8 : Int32) := by rw [hq4_61]; decide
    have hq4_61_9 : ¬ u1 = (9 : Int32) := by rw [hq4_61]; decide
    have hq4_61_10 : ¬ u1 = (10 : Int32) := by rw [hq4_61]; decide
    have hq4_61_11 : ¬ u1 = (11 : Int32) := by rw [hq4_61]; decide
    have hq4_61_12 : ¬ u1 = (12 : Int32) := by rw [hq4_61]; decide
    have hq4_61_13 : ¬ u1 = (13 : Int32) := by rw [hq4_61]; decide
    obtain ⟨fs, hrT, hrunT, hendT, hWT, hsameT⟩ := X45.leave (v := some (.int (40 : Int32))) (fun h => by rw [Bd.returns] at h; cases h)
    refine ⟨_, _, S46 _ ?_, hrunT, hendT, _, _, rfl, ?_, ⟨_, rfl⟩, hWT, hsameT.mono (by decide) (by decide)⟩
    · show Steps p.tables e below (T45.setTop (mkF m 4 #[.val (.ref r0)] [(.int u1)])) _
      refine XS.tswIn X45.here hx rfl (pc0 := 4) (pc' := 95) rfl (hb hby d2_4) rfl (by rw [hq4_61]; decide) (by rw [hq4_61]; rfl) (by decide) (by decide) ?_
      show Steps p.tables e below (T45.setTop (mkF m 95 #[.val (.ref r0)] [])) _
      refine XS.bipush X45.here hx rfl (hb hby d2_95) ?_
      show Steps p.tables e below (T45.setTop (mkF m 97 #[.val (.ref r0)] [(.int (40 : Int32))])) _
      refine XS.goto X45.here hx rfl (pc0 := 97) (pc' := 101) rfl (hb hby d2_97) (by decide) (by decide) ?_
      show Steps p.tables e below (T45.setTop (mkF m 101 #[.val (.ref r0)] [(.int (40 : Int32))])) _
      exact retI X45 hx Bd.returns (hb hby d2_101) hrT
    · show Q2 Z r0 u1 h0 n0 _ T45.heap _
      rw [e45]
      have hv : f_ml u1 = (40 : Int32) := by unfold f_ml; rw [if_neg hq4_61_0]; rw [if_neg hq4_61_1]; rw [if_neg hq4_61_2]; rw [if_neg hq4_61_3]; rw [if_neg hq4_61_4]; rw [if_neg hq4_61_5]; rw [if_neg hq4_61_6]; rw [if_neg hq4_61_7]; rw [if_neg hq4_61_8]; rw [if_neg hq4_61_9]; rw [if_neg hq4_61_10]; rw [if_neg hq4_61_11]; rw [if_neg hq4_61_12]; rw [if_neg hq4_61_13]
      exact ⟨(congrArg (fun z => some (Value.int z)) hv.symm), N45, rfl⟩
theorem own_0 {kk : Int32} (hk : 0 ≤ kk.toInt ∧ kk.toInt < 15) (h3 : ¬ kk = 3) (h13 : ¬ kk = 13) (h14 : ¬ kk = 14) : f_ml kk = 0 := by
  rcases own_or kk hk with rfl | rfl | rfl | rfl | rfl | rfl | rfl | rfl | rfl | rfl | rfl | rfl | rfl | rfl | rfl
  · decide
  · decide
  · decide
  · exact absurd rfl h3
  · decide
  · decide
  · decide
  · decide
  · decide
  · decide
  · decide
  · decide
  · decide
  · exact absurd rfl h13
  · exact absurd rfl h14
theorem pd__I_Lcom_example_gatedb_gatedb_pgwire_PgType_ : parseMethodDescriptor "(I)Lcom/example/gatedb/gatedb/pgwire/PgType;" = some ⟨[.int], some (.object "com/example/gatedb/gatedb/pgwire/PgType")⟩ := by decide +kernel
theorem ef0 (m : MethodId) (x0 : Int32) : entryFrame m #[(.int x0)] maxLocals = mkF m 0 #[.val (.int x0), .unset, .unset, .unset, .unset, .unset, .unset] [] := by first | (simp [entryFrame, mkF, argsToLocals, Value.category, maxLocals]; done) | rfl
def Q0 (Z : State) (p0 : Int32) (v_BOOL : Addr) (v_INT8 : Addr) (v_TIMESTAMP : Addr) (v_TIMESTAMPTZ : Addr) (v_VARCHAR : Addr) (v_BPCHAR : Addr) (v_NAME : Addr) (v_INT4 : Addr) (v_DATE : Addr) (v_NUMERIC : Addr) (v_FLOAT4 : Addr) (v_INT2 : Addr) (v_TIME : Addr) (v_TEXT : Addr) (v_FLOAT8 : Addr) (h0 : Heap) (n0 : Nat) (v : Option Value) (h : Heap) (L : List Loc) : Prop := v = some (.int (1 : Int32)) ∧ Fr n0 L
set_option maxRecDepth 65536 in
set_option maxHeartbeats 40000000 in
theorem rm0 (l : Launch) (Z : State) (a0 : Array Value) (hw : ∀ d ∈ tables_1, d.before a0 Z = true) (ws : List Jvm.Cond) (p0 : Int32) (v_BOOL : Addr) (v_INT8 : Addr) (v_TIMESTAMP : Addr) (v_TIMESTAMPTZ : Addr) (v_VARCHAR : Addr) (v_BPCHAR : Addr) (v_NAME : Addr) (v_INT4 : Addr) (v_DATE : Addr) (v_NUMERIC : Addr) (v_FLOAT4 : Addr) (v_INT2 : Addr) (v_TIME : Addr) (v_TEXT : Addr) (v_FLOAT8 : Addr) (h0 : Heap) (n0 : Nat) (Z0 : n0 ≤ h0.size) (Sv_BOOL : Sta Z h0 "com/example/gatedb/gatedb/pgwire/PgType" "BOOL" "Lcom/example/gatedb/gatedb/pgwire/PgType;" (.ref v_BOOL)) (Ev_BOOL : Exa Z h0 v_BOOL "com/example/gatedb/gatedb/pgwire/PgType") (Sv_INT8 : Sta Z h0 "com/example/gatedb/gatedb/pgwire/PgType" "INT8" "Lcom/example/gatedb/gatedb/pgwire/PgType;" (.ref v_INT8)) (Ev_INT8 : Exa Z h0 v_INT8 "com/example/gatedb/gatedb/pgwire/PgType") (Sv_TIMESTAMP : Sta Z h0 "com/example/gatedb/gatedb/pgwire/PgType" "TIMESTAMP" "Lcom/example/gatedb/gatedb/pgwire/PgType;" (.ref v_TIMESTAMP)) (Ev_TIMESTAMP : Exa Z h0 v_TIMESTAMP "com/example/gatedb/gatedb/pgwire/PgType") (Sv_TIMESTAMPTZ : Sta Z h0 "com/example/gatedb/gatedb/pgwire/PgType" "TIMESTAMPTZ" "Lcom/example/gatedb/gatedb/pgwire/PgType;" (.ref v_TIMESTAMPTZ)) (Ev_TIMESTAMPTZ : Exa Z h0 v_TIMESTAMPTZ "com/example/gatedb/gatedb/pgwire/PgType") (Sv_VARCHAR : Sta Z h0 "com/example/gatedb/gatedb/pgwire/PgType" "VARCHAR" "Lcom/example/gatedb/gatedb/pgwire/PgType;" (.ref v_VARCHAR)) (Ev_VARCHAR : Exa Z h0 v_VARCHAR "com/example/gatedb/gatedb/pgwire/PgType") (Sv_BPCHAR : Sta Z h0 "com/example/gatedb/gatedb/pgwire/PgType" "BPCHAR" "Lcom/example/gatedb/gatedb/pgwire/PgType;" (.ref v_BPCHAR)) (Ev_BPCHAR : Exa Z h0 v_BPCHAR "com/example/gatedb/gatedb/pgwire/PgType") (Sv_NAME : Sta Z h0 "com/example/gatedb/gatedb/pgwire/PgType" "NAME" "Lcom/example/gatedb/gatedb/pgwire/PgType;" (.ref v_NAME)) (Ev_NAME : Exa Z h0 v_NAME "com/example/gatedb/gatedb/pgwire/PgType") (Sv_INT4 : Sta Z h0 "com/example/gatedb/gatedb/pgwire/PgType" "INT4" "Lcom/example/gatedb/gatedb/pgwire/PgType;" (.ref v_INT4)) (Ev_INT4 : Exa Z h0 v_INT4 "com/example/gatedb/gatedb/pgwire/PgType") (Sv_DATE : Sta Z h0 "com/example/gatedb/gatedb/pgwire/PgType" "DATE" "Lcom/example/gatedb/gatedb/pgwire/PgType;" (.ref v_DATE)) (Ev_DATE : Exa Z h0 v_DATE "com/example/gatedb/gatedb/pgwire/PgType") (Sv_NUMERIC : Sta Z h0 "com/example/gatedb/gatedb/pgwire/PgType" "NUMERIC" "Lcom/example/gatedb/gatedb/pgwire/PgType;" (.ref v_NUMERIC)) (Ev_NUMERIC : Exa Z h0 v_NUMERIC "com/example/gatedb/gatedb/pgwire/PgType") (Sv_FLOAT4 : Sta Z h0 "com/example/gatedb/gatedb/pgwire/PgType" "FLOAT4" "Lcom/example/gatedb/gatedb/pgwire/PgType;" (.ref v_FLOAT4)) (Ev_FLOAT4 : Exa Z h0 v_FLOAT4 "com/example/gatedb/gatedb/pgwire/PgType") (Sv_INT2 : Sta Z h0 "com/example/gatedb/gatedb/pgwire/PgType" "INT2" "Lcom/example/gatedb/gatedb/pgwire/PgType;" (.ref v_INT2)) (Ev_INT2 : Exa Z h0 v_INT2 "com/example/gatedb/gatedb/pgwire/PgType") (Sv_TIME : Sta Z h0 "com/example/gatedb/gatedb/pgwire/PgType" "TIME" "Lcom/example/gatedb/gatedb/pgwire/PgType;" (.ref v_TIME)) (Ev_TIME : Exa Z h0 v_TIME "com/example/gatedb/gatedb/pgwire/PgType") (Sv_TEXT : Sta Z h0 "com/example/gatedb/gatedb/pgwire/PgType" "TEXT" "Lcom/example/gatedb/gatedb/pgwire/PgType;" (.ref v_TEXT)) (Ev_TEXT : Exa Z h0 v_TEXT "com/example/gatedb/gatedb/pgwire/PgType") (Sv_FLOAT8 : Sta Z h0 "com/example/gatedb/gatedb/pgwire/PgType" "FLOAT8" "Lcom/example/gatedb/gatedb/pgwire/PgType;" (.ref v_FLOAT8)) (Ev_FLOAT8 : Exa Z h0 v_FLOAT8 "com/example/gatedb/gatedb/pgwire/PgType") (Fv_BOOL_ordinal : Fld Z h0 v_BOOL "java/lang/Enum" "ordinal" "I" (.int (0 : Int32))) (Fv_INT8_ordinal : Fld Z h0 v_INT8 "java/lang/Enum" "ordinal" "I" (.int (3 : Int32))) (Fv_TIMESTAMP_ordinal : Fld Z h0 v_TIMESTAMP "java/lang/Enum" "ordinal" "I" (.int (13 : Int32))) (Fv_TIMESTAMPTZ_ordinal : Fld Z h0 v_TIMESTAMPTZ "java/lang/Enum" "ordinal" "I" (.int (14 : Int32))) (Fv_VARCHAR_ordinal : Fld Z h0 v_VARCHAR "java/lang/Enum" "ordinal" "I" (.int (5 : Int32))) (Fv_BPCHAR_ordinal : Fld Z h0 v_BPCHAR "java/lang/Enum" "ordinal" "I" (.int (6 : Int32))) (Fv_NAME_ordinal : Fld Z h0 v_NAME "java/lang/Enum" "ordinal" "I" (.int (7 : Int32))) (Fv_INT4_ordinal : Fld Z h0 v_INT4 "java/lang/Enum" "ordinal" "I" (.int (2 : Int32))) (Fv_DATE_ordinal : Fld Z h0 v_DATE "java/lang/Enum" "ordinal" "I" (.int (11 : Int32))) (Fv_NUMERIC_ordinal : Fld Z h0 v_NUMERIC "java/lang/Enum" "ordinal" "I" (.int (10 : Int32))) (Fv_FLOAT4_ordinal : Fld Z h0 v_FLOAT4 "java/lang/Enum" "ordinal" "I" (.int (8 : Int32))) (Fv_INT2_ordinal : Fld Z h0 v_INT2 "java/lang/Enum" "ordinal" "I" (.int (1 : Int32))) (Fv_TIME_ordinal : Fld Z h0 v_TIME "java/lang/Enum" "ordinal" "I" (.int (12 : Int32))) (Fv_TEXT_ordinal : Fld Z h0 v_TEXT "java/lang/Enum" "ordinal" "I" (.int (4 : Int32))) (Fv_FLOAT8_ordinal : Fld Z h0 v_FLOAT8 "java/lang/Enum" "ordinal" "I" (.int (9 : Int32))) :
    MetFree l x (head1 (Jvm.Cond.code x code maxLocals ret :: ws) room_1) (fun a U => a = #[(.int p0)] ∧ Z.Warmed39 U.vm ∧ U.heap = h0) (fun _ _ _ _ _ => True) (fun _ U o U' => ∃ v L, o = .returned v ∧ Q0 Z p0 v_BOOL v_INT8 v_TIMESTAMP v_TIMESTAMPTZ v_VARCHAR v_BPCHAR v_NAME v_INT4 v_DATE v_NUMERIC v_FLOAT4 v_INT2 v_TIME v_TEXT v_FLOAT8 h0 n0 v U'.heap L ∧ FrameEnd U o U' L room_1.cells room_1.slots) := by
  refine MetFree.of_bodySF (plainFor_of_name pn_PgTypeMaxLengthPinLaw) hisR ?_
  intro p e s m args below meth c s₁ Bd hml0 hP hK
  obtain ⟨rfl, hZ, hh⟩ := hP
  have hx := Bd.exec
  have hby := Bd.bytes
  have hml : c.maxLocals = 7 := hml0
  have hown : s.vm.findClass "com/example/gatedb/gatedb/pgwire/PgTypeMaxLengthPinLaw" = some m.cls := findClass_of_methodNamed Bd.named
  have hnm := (name_of_methodNamed Bd.named Bd.method).1
  have X0 : Stand p l e room_1 s m #[(.int p0)] below meth c s₁ [] 0 0 := Stand.of_body Bd
  have e0 : s₁.heap = h0 := by rw [← hh, Bd.state]; rfl
  have N0 := Fr.nil n0
  have pre0 : ∀ t, Steps p.tables e below (s₁.setTop (mkF m 0 #[.val (.int p0), .unset, .unset, .unset, .unset, .unset, .unset] [])) t → Steps p.tables e below (s₁.setTop (entryFrame m #[(.int p0)] maxLocals)) t := fun t k => castTop (ef0 m p0) k
  have S62 : ∀ t, Steps p.tables e below (s₁.setTop (mkF m 8 #[.val (.int p0), .val (.int ((p0 &&& (2147483647 : Int32)) % (15 : Int32))), .unset, .unset, .unset, .unset, .unset] [])) t → Steps p.tables e below (s₁.setTop (entryFrame m #[(.int p0)] maxLocals)) t := by
    intro t kt
    refine pre0 _ ?_
    show Steps p.tables e below (s₁.setTop (mkF m 0 #[.val (.int p0), .unset, .unset, .unset, .unset, .unset, .unset] [])) _
    refine XS.iloadN X0.here hx rfl (hb hby at_0) rfl ?_
    show Steps p.tables e below (s₁.setTop (mkF m 1 #[.val (.int p0), .unset, .unset, .unset, .unset, .unset, .unset] [(.int p0)])) _
    refine X0.ldcInt hx hown (mvT hZ (hw _ (List.mem_of_getElem? (i := 0) rfl))) (g := (mkF m 1 #[.val (.int p0), .unset, .unset, .unset, .unset, .unset, .unset] [(.int p0)])) rfl (hb hby at_1) _ ?_
    show Steps p.tables e below (s₁.setTop (mkF m 3 #[.val (.int p0), .unset, .unset, .unset, .unset, .unset, .unset] [(.int (2147483647 : Int32)), (.int p0)])) _
    refine XS.iand X0.here hx rfl (hb hby at_3) rfl ?_
    show Steps p.tables e below (s₁.setTop (mkF m 4 #[.val (.int p0), .unset, .unset, .unset, .unset, .unset, .unset] [(.int (p0 &&& (2147483647 : Int32)))])) _
    refine XS.bipush X0.here hx rfl (hb hby at_4) ?_
    show Steps p.tables e below (s₁.setTop (mkF m 6 #[.val (.int p0), .unset, .unset, .unset, .unset, .unset, .unset] [(.int (15 : Int32)), (.int (p0 &&& (2147483647 : Int32)))])) _
    refine iremM X0 hx rfl (hb hby at_6) rfl (by decide) ?_
    show Steps p.tables e below (s₁.setTop (mkF m 7 #[.val (.int p0), .unset, .unset, .unset, .unset, .unset, .unset] [(.int ((p0 &&& (2147483647 : Int32)) % (15 : Int32)))])) _
    refine XS.istoreN X0.here hx rfl (hb hby at_7) rfl (l' := #[.val (.int p0), .val (.int ((p0 &&& (2147483647 : Int32)) % (15 : Int32))), .unset, .unset, .unset, .unset, .unset]) rfl ?_
    exact kt
  obtain ⟨kk, hd_kk⟩ : ∃ z, z = ((p0 &&& (2147483647 : Int32)) % (15 : Int32)) := ⟨_, rfl⟩
  rw [← hd_kk] at S62
  obtain ⟨_, _, ⟨T63, L63, k63, n63⟩, -, X63, ⟨Lc63, hQ63, l63, y63, z63⟩, st63⟩ := Jvm.LawKit.callS X0 hx (y := (⟨"com/example/gatedb/gatedb/pgwire/PgTypeMaxLengthPinLaw", "typeAt", "(I)Lcom/example/gatedb/gatedb/pgwire/PgType;"⟩ : MethodName)) hown (mvT hZ (hw _ (List.mem_of_getElem? (i := 1) rfl))) (mvT hZ (hw _ (List.mem_of_getElem? (i := 2) rfl))) (mvT hZ (hw _ (List.mem_of_getElem? (i := 3) rfl))) (mvT hZ (hw _ (List.mem_of_getElem? (i := 4) rfl))) (by decide) (backOf (W := 0) (rm1 l Z a0 hw [] kk v_BOOL v_INT8 v_TIMESTAMP v_TIMESTAMPTZ v_VARCHAR v_BPCHAR v_NAME v_INT4 v_DATE v_NUMERIC v_FLOAT4 v_INT2 v_TIME v_TEXT v_FLOAT8 h0 n0 Z0 (by rw [hd_kk]; exact own_mod p0) Sv_BOOL Ev_BOOL Sv_INT8 Ev_INT8 Sv_TIMESTAMP Ev_TIMESTAMP Sv_TIMESTAMPTZ Ev_TIMESTAMPTZ Sv_VARCHAR Ev_VARCHAR Sv_BPCHAR Ev_BPCHAR Sv_NAME Ev_NAME Sv_INT4 Ev_INT4 Sv_DATE Ev_DATE Sv_NUMERIC Ev_NUMERIC Sv_FLOAT4 Ev_FLOAT4 Sv_INT2 Ev_INT2 Sv_TIME Ev_TIME Sv_TEXT Ev_TEXT Sv_FLOAT8 Ev_FLOAT8 Fv_BOOL_ordinal Fv_INT8_ordinal Fv_TIMESTAMP_ordinal Fv_TIMESTAMPTZ_ordinal Fv_VARCHAR_ordinal Fv_BPCHAR_ordinal Fv_NAME_ordinal Fv_INT4_ordinal Fv_DATE_ordinal Fv_NUMERIC_ordinal Fv_FLOAT4_ordinal Fv_INT2_ordinal Fv_TIME_ordinal Fv_TEXT_ordinal Fv_FLOAT8_ordinal) hZ (hw _ (List.mem_of_getElem? (i := 4) rfl)) (hw _ (List.mem_of_getElem? (i := 3) rfl)) (by decide) (by decide)) (g := (mkF m 9 #[.val (.int p0), .val (.int kk), .unset, .unset, .unset, .unset, .unset] [(.int kk)])) rfl (by rw [hml]; rfl) (argsL := [(.int kk)]) (rest := []) (lenOf pd__I_Lcom_example_gatedb_gatedb_pgwire_PgType_ rfl) rfl (by show 2 * 0 + _ ≤ _; exact Nat.le_of_eq rfl) (hb hby at_9) (fun _ _ => ⟨rfl, e0, (by decide : 0 + 0 ≤ _), (by decide : 0 + 0 ≤ _)⟩)
  dsimp only [Pt.U, Pt.locs, Pt.cells, Pt.slots] at X63 l63 y63 z63 st63 hQ63
  subst l63 y63 z63
  obtain ⟨bb_63, rfl, Nq63, e63, f63_0, f63_1, f63_2, f63_3, f63_4⟩ := hQ63
  rw [e63] at f63_0 f63_1
  have N63 := Fr.app N0 Nq63
  obtain ⟨T64, X64, e64, st64⟩ := getS2 X63 hx hZ hown (host := "") (Or.inl (hw _ (List.mem_of_getElem? (i := 8) rfl))) Via.refl e63 Sv_INT8 (g := (mkF m 14 #[.val (.int p0), .val (.int kk), .val (.ref bb_63), .unset, .unset, .unset, .unset] [(.ref bb_63)])) rfl (hb hby at_14)
  have S65 : ∀ t, Steps p.tables e below (T64.setTop (mkF m 17 #[.val (.int p0), .val (.int kk), .val (.ref bb_63), .unset, .unset, .unset, .unset] [(.ref v_INT8), (.ref bb_63)])) t → Steps p.tables e below (s₁.setTop (entryFrame m #[(.int p0)] maxLocals)) t := by
    intro t kt
    refine S62 _ ?_
    show Steps p.tables e below (s₁.setTop (mkF m 8 #[.val (.int p0), .val (.int kk), .unset, .unset, .unset, .unset, .unset] [])) _
    refine XS.iloadN X0.here hx rfl (hb hby at_8) rfl ?_
    show Steps p.tables e below (s₁.setTop (mkF m 9 #[.val (.int p0), .val (.int kk), .unset, .unset, .unset, .unset, .unset] [(.int kk)])) _
    refine st63 _ ?_
    show Steps p.tables e below (T63.setTop (mkF m 12 #[.val (.int p0), .val (.int kk), .unset, .unset, .unset, .unset, .unset] [(.ref bb_63)])) _
    refine XS.astoreN X63.here hx rfl (hb hby at_12) rfl rfl (l' := #[.val (.int p0), .val (.int kk), .val (.ref bb_63), .unset, .unset, .unset, .unset]) rfl ?_
    show Steps p.tables e below (T63.setTop (mkF m 13 #[.val (.int p0), .val (.int kk), .val (.ref bb_63), .unset, .unset, .unset, .unset] [])) _
    refine XS.aloadN X63.here hx rfl (hb hby at_13) rfl rfl ?_
    show Steps p.tables e below (T63.setTop (mkF m 14 #[.val (.int p0), .val (.int kk), .val (.ref bb_63), .unset, .unset, .unset, .unset] [(.ref bb_63)])) _
    refine st64 _ ?_
    exact kt
  by_cases hc17_66 : bb_63 = v_INT8
  case pos =>
    obtain ⟨cq67, kq67, q67a, q67b, q67c⟩ := isOf hZ e64 f63_0
    obtain ⟨_, _, ⟨T67, L67, k67, n67⟩, -, X67, ⟨Lc67, hQ67, l67, y67, z67⟩, st67⟩ := X64.virtualBack hx (y := (⟨"com/example/gatedb/gatedb/pgwire/PgType", "maxLength", "()I"⟩ : MethodName)) (z := (⟨"com/example/gatedb/gatedb/pgwire/PgType", "maxLength", "()I"⟩ : MethodName)) hown (mvT hZ (hw _ (List.mem_of_getElem? (i := 14) rfl))) (mvT hZ (hw _ (List.mem_of_getElem? (i := 15) rfl))) (notFace_of_selects (args := #[]) (mvT hZ (hw _ (List.mem_of_getElem? (i := 17) rfl)))) (mvT hZ (hw _ (List.mem_of_getElem? (i := 17) rfl))) (mvT hZ (hw _ (List.mem_of_getElem? (i := 16) rfl))) (by decide) (backOf (W := 0) (rm2 l Z a0 hw [] bb_63 kk h0 n0 Z0 (by rw [hd_kk]; exact own_mod p0) f63_0 f63_1) hZ (hw _ (List.mem_of_getElem? (i := 18) rfl)) (hw _ (List.mem_of_getElem? (i := 6) rfl)) (by decide) (by decide)) q67a q67c (g := (mkF m 49 #[.val (.int p0), .val (.int kk), .val (.ref bb_63), .val (.int (1 : Int32)), .val (.int (20 : Int32)), .val (.int (37 : Int32)), .unset] [(.ref bb_63)])) rfl (by rw [hml]; rfl) (Steps.refl _) (argsL := []) (rest := []) (lenOf pd___I rfl) rfl (by show 2 * 0 + _ ≤ _; exact Nat.le_of_eq rfl) (hb hby at_49) (fun _ _ => ⟨rfl, e64, (by decide : 0 + 0 ≤ _), (by decide : 0 + 0 ≤ _)⟩)
    dsimp only [Pt.U, Pt.locs, Pt.cells, Pt.slots] at X67 l67 y67 z67 st67 hQ67
    subst l67 y67 z67
    obtain ⟨rfl, Nq67, e67⟩ := hQ67
    have N67 := Fr.app N63 Nq67
    obtain ⟨T68, X68, e68, st68⟩ := getS2 X67 hx hZ hown (host := "") (Or.inl (hw _ (List.mem_of_getElem? (i := 8) rfl))) Via.refl e67 Sv_INT8 (g := (mkF m 70 #[.val (.int p0), .val (.int kk), .val (.ref bb_63), .val (.int (1 : Int32)), .val (.int (20 : Int32)), .val (.int (37 : Int32)), .val (.int (f_ml kk))] [(.ref bb_63)])) rfl (hb hby at_70)
    obtain ⟨fs, hrT, hrunT, hendT, hWT, hsameT⟩ := X68.leave (v := some (.int (1 : Int32))) (fun h => by rw [Bd.returns] at h; cases h)
    refine ⟨_, _, S65 _ ?_, hrunT, hendT, _, _, rfl, ?_, ⟨_, rfl⟩, hWT, hsameT.mono (by decide) (by decide)⟩
    · show Steps p.tables e below (T64.setTop (mkF m 17 #[.val (.int p0), .val (.int kk), .val (.ref bb_63), .unset, .unset, .unset, .unset] [(.ref v_INT8), (.ref bb_63)])) _
      refine XT.acmpYes X64.here hx rfl (pc0 := 17) (pc' := 34) rfl (hb hby at_17) rfl rfl rfl (XT.aa_eq_t (congrArg Value.ref hc17_66)) (by decide) (by decide) ?_
      show Steps p.tables e below (T64.setTop (mkF m 34 #[.val (.int p0), .val (.int kk), .val (.ref bb_63), .unset, .unset, .unset, .unset] [])) _
      refine XS.iconst X64.here hx rfl (hb hby at_34) ?_
      show Steps p.tables e below (T64.setTop (mkF m 35 #[.val (.int p0), .val (.int kk), .val (.ref bb_63), .unset, .unset, .unset, .unset] [(.int (1 : Int32))])) _
      refine XS.goto X64.here hx rfl (pc0 := 35) (pc' := 39) rfl (hb hby at_35) (by decide) (by decide) ?_
      show Steps p.tables e below (T64.setTop (mkF m 39 #[.val (.int p0), .val (.int kk), .val (.ref bb_63), .unset, .unset, .unset, .unset] [(.int (1 : Int32))])) _
      refine XS.istoreN X64.here hx rfl (hb hby at_39) rfl (l' := #[.val (.int p0), .val (.int kk), .val (.ref bb_63), .val (.int (1 : Int32)), .unset, .unset, .unset]) rfl ?_
      show Steps p.tables e below (T64.setTop (mkF m 40 #[.val (.int p0), .val (.int kk), .val (.ref bb_63), .val (.int (1 : Int32)), .unset, .unset, .unset] [])) _
      refine XS.bipush X64.here hx rfl (hb hby at_40) ?_
      show Steps p.tables e below (T64.setTop (mkF m 42 #[.val (.int p0), .val (.int kk), .val (.ref bb_63), .val (.int (1 : Int32)), .unset, .unset, .unset] [(.int (20 : Int32))])) _
      refine XS.istore X64.here hx rfl (hb hby at_42) rfl (l' := #[.val (.int p0), .val (.int kk), .val (.ref bb_63), .val (.int (1 : Int32)), .val (.int (20 : Int32)), .unset, .unset]) rfl ?_
      show Steps p.tables e below (T64.setTop (mkF m 44 #[.val (.int p0), .val (.int kk), .val (.ref bb_63), .val (.int (1 : Int32)), .val (.int (20 : Int32)), .unset, .unset] [])) _
      refine XS.bipush X64.here hx rfl (hb hby at_44) ?_
      show Steps p.tables e below (T64.setTop (mkF m 46 #[.val (.int p0), .val (.int kk), .val (.ref bb_63), .val (.int (1 : Int32)), .val (.int (20 : Int32)), .unset, .unset] [(.int (37 : Int32))])) _
      refine XS.istore X64.here hx rfl (hb hby at_46) rfl (l' := #[.val (.int p0), .val (.int kk), .val (.ref bb_63), .val (.int (1 : Int32)), .val (.int (20 : Int32)), .val (.int (37 : Int32)), .unset]) rfl ?_
      show Steps p.tables e below (T64.setTop (mkF m 48 #[.val (.int p0), .val (.int kk), .val (.ref bb_63), .val (.int (1 : Int32)), .val (.int (20 : Int32)), .val (.int (37 : Int32)), .unset] [])) _
      refine XS.aloadN X64.here hx rfl (hb hby at_48) rfl rfl ?_
      show Steps p.tables e below (T64.setTop (mkF m 49 #[.val (.int p0), .val (.int kk), .val (.ref bb_63), .val (.int (1 : Int32)), .val (.int (20 : Int32)), .val (.int (37 : Int32)), .unset] [(.ref bb_63)])) _
      refine st67.trans ?_
      show Steps p.tables e below (T67.setTop (mkF m 52 #[.val (.int p0), .val (.int kk), .val (.ref bb_63), .val (.int (1 : Int32)), .val (.int (20 : Int32)), .val (.int (37 : Int32)), .unset] [(.int (f_ml kk))])) _
      refine XS.istore X67.here hx rfl (hb hby at_52) rfl (l' := #[.val (.int p0), .val (.int kk), .val (.ref bb_63), .val (.int (1 : Int32)), .val (.int (20 : Int32)), .val (.int (37 : Int32)), .val (.int (f_ml kk))]) rfl ?_
      show Steps p.tables e below (T67.setTop (mkF m 54 #[.val (.int p0), .val (.int kk), .val (.ref bb_63), .val (.int (1 : Int32)), .val (.int (20 : Int32)), .val (.int (37 : Int32)), .val (.int (f_ml kk))] [])) _
      refine XS.iloadN X67.here hx rfl (hb hby at_54) rfl ?_
      show Steps p.tables e below (T67.setTop (mkF m 55 #[.val (.int p0), .val (.int kk), .val (.ref bb_63), .val (.int (1 : Int32)), .val (.int (20 : Int32)), .val (.int (37 : Int32)), .val (.int (f_ml kk))] [(.int (1 : Int32))])) _
      refine XS.ifYes X67.here hx rfl (pc0 := 55) (pc' := 69) rfl (hb hby at_55) rfl (XT.i0_ne_t (by decide)) (by decide) (by decide) ?_
      show Steps p.tables e below (T67.setTop (mkF m 69 #[.val (.int p0), .val (.int kk), .val (.ref bb_63), .val (.int (1 : Int32)), .val (.int (20 : Int32)), .val (.int (37 : Int32)), .val (.int (f_ml kk))] [])) _
      refine XS.aloadN X67.here hx rfl (hb hby at_69) rfl rfl ?_
      show Steps p.tables e below (T67.setTop (mkF m 70 #[.val (.int p0), .val (.int kk), .val (.ref bb_63), .val (.int (1 : Int32)), .val (.int (20 : Int32)), .val (.int (37 : Int32)), .val (.int (f_ml kk))] [(.ref bb_63)])) _
      refine st68 _ ?_
      show Steps p.tables e below (T68.setTop (mkF m 73 #[.val (.int p0), .val (.int kk), .val (.ref bb_63), .val (.int (1 : Int32)), .val (.int (20 : Int32)), .val (.int (37 : Int32)), .val (.int (f_ml kk))] [(.ref v_INT8), (.ref bb_63)])) _
      refine XT.acmpNo X68.here hx rfl (hb hby at_73) rfl rfl rfl (XT.aa_ne_f (congrArg Value.ref hc17_66)) ?_
      show Steps p.tables e below (T68.setTop (mkF m 76 #[.val (.int p0), .val (.int kk), .val (.ref bb_63), .val (.int (1 : Int32)), .val (.int (20 : Int32)), .val (.int (37 : Int32)), .val (.int (f_ml kk))] [])) _
      refine XS.iload X68.here hx rfl (hb hby at_76) rfl ?_
      show Steps p.tables e below (T68.setTop (mkF m 78 #[.val (.int p0), .val (.int kk), .val (.ref bb_63), .val (.int (1 : Int32)), .val (.int (20 : Int32)), .val (.int (37 : Int32)), .val (.int (f_ml kk))] [(.int (f_ml kk))])) _
      refine XS.iload X68.here hx rfl (hb hby at_78) rfl ?_
      show Steps p.tables e below (T68.setTop (mkF m 80 #[.val (.int p0), .val (.int kk), .val (.ref bb_63), .val (.int (1 : Int32)), .val (.int (20 : Int32)), .val (.int (37 : Int32)), .val (.int (f_ml kk))] [(.int (20 : Int32)), (.int (f_ml kk))])) _
      refine XS.icmpNo X68.here hx rfl (hb hby at_80) rfl (XT.ii_ne_f (by rw [(Value.int.inj (own_uniq f63_1 (hc17_66.symm ▸ Fv_INT8_ordinal)) : kk = (3 : Int32))]; decide)) ?_
      show Steps p.tables e below (T68.setTop (mkF m 83 #[.val (.int p0), .val (.int kk), .val (.ref bb_63), .val (.int (1 : Int32)), .val (.int (20 : Int32)), .val (.int (37 : Int32)), .val (.int (f_ml kk))] [])) _
      refine XS.iconst X68.here hx rfl (hb hby at_83) ?_
      show Steps p.tables e below (T68.setTop (mkF m 84 #[.val (.int p0), .val (.int kk), .val (.ref bb_63), .val (.int (1 : Int32)), .val (.int (20 : Int32)), .val (.int (37 : Int32)), .val (.int (f_ml kk))] [(.int (1 : Int32))])) _
      refine XS.goto X68.here hx rfl (pc0 := 84) (pc' := 88) rfl (hb hby at_84) (by decide) (by decide) ?_
      show Steps p.tables e below (T68.setTop (mkF m 88 #[.val (.int p0), .val (.int kk), .val (.ref bb_63), .val (.int (1 : Int32)), .val (.int (20 : Int32)), .val (.int (37 : Int32)), .val (.int (f_ml kk))] [(.int (1 : Int32))])) _
      exact retN X68 hx (t := .boolean) Bd.returns (by simp) (hb hby at_88) hrT
    · show Q0 Z p0 v_BOOL v_INT8 v_TIMESTAMP v_TIMESTAMPTZ v_VARCHAR v_BPCHAR v_NAME v_INT4 v_DATE v_NUMERIC v_FLOAT4 v_INT2 v_TIME v_TEXT v_FLOAT8 h0 n0 _ T68.heap _
      rw [e68]
      exact ⟨rfl, N67⟩
  case neg =>
    obtain ⟨T69, X69, e69, st69⟩ := getS2 X64 hx hZ hown (host := "") (Or.inl (hw _ (List.mem_of_getElem? (i := 10) rfl))) Via.refl e64 Sv_TIMESTAMP (g := (mkF m 21 #[.val (.int p0), .val (.int kk), .val (.ref bb_63), .unset, .unset, .unset, .unset] [(.ref bb_63)])) rfl (hb hby at_21)
    have S70 : ∀ t, Steps p.tables e below (T69.setTop (mkF m 24 #[.val (.int p0), .val (.int kk), .val (.ref bb_63), .unset, .unset, .unset, .unset] [(.ref v_TIMESTAMP), (.ref bb_63)])) t → Steps p.tables e below (s₁.setTop (entryFrame m #[(.int p0)] maxLocals)) t := by
      intro t kt
      refine S65 _ ?_
      show Steps p.tables e below (T64.setTop (mkF m 17 #[.val (.int p0), .val (.int kk), .val (.ref bb_63), .unset, .unset, .unset, .unset] [(.ref v_INT8), (.ref bb_63)])) _
      refine XT.acmpNo X64.here hx rfl (hb hby at_17) rfl rfl rfl (XT.aa_eq_f (fun q => hc17_66 (Value.ref.inj q))) ?_
      show Steps p.tables e below (T64.setTop (mkF m 20 #[.val (.int p0), .val (.int kk), .val (.ref bb_63), .unset, .unset, .unset, .unset] [])) _
      refine XS.aloadN X64.here hx rfl (hb hby at_20) rfl rfl ?_
      show Steps p.tables e below (T64.setTop (mkF m 21 #[.val (.int p0), .val (.int kk), .val (.ref bb_63), .unset, .unset, .unset, .unset] [(.ref bb_63)])) _
      refine st69 _ ?_
      exact kt
    by_cases hc24_71 : bb_63 = v_TIMESTAMP
    case pos =>
      obtain ⟨cq72, kq72, q72a, q72b, q72c⟩ := isOf hZ e69 f63_0
      obtain ⟨_, _, ⟨T72, L72, k72, n72⟩, -, X72, ⟨Lc72, hQ72, l72, y72, z72⟩, st72⟩ := X69.virtualBack hx (y := (⟨"com/example/gatedb/gatedb/pgwire/PgType", "maxLength", "()I"⟩ : MethodName)) (z := (⟨"com/example/gatedb/gatedb/pgwire/PgType", "maxLength", "()I"⟩ : MethodName)) hown (mvT hZ (hw _ (List.mem_of_getElem? (i := 14) rfl))) (mvT hZ (hw _ (List.mem_of_getElem? (i := 15) rfl))) (notFace_of_selects (args := #[]) (mvT hZ (hw _ (List.mem_of_getElem? (i := 17) rfl)))) (mvT hZ (hw _ (List.mem_of_getElem? (i := 17) rfl))) (mvT hZ (hw _ (List.mem_of_getElem? (i := 16) rfl))) (by decide) (backOf (W := 0) (rm2 l Z a0 hw [] bb_63 kk h0 n0 Z0 (by rw [hd_kk]; exact own_mod p0) f63_0 f63_1) hZ (hw _ (List.mem_of_getElem? (i := 18) rfl)) (hw _ (List.mem_of_getElem? (i := 6) rfl)) (by decide) (by decide)) q72a q72c (g := (mkF m 49 #[.val (.int p0), .val (.int kk), .val (.ref bb_63), .val (.int (1 : Int32)), .val (.int (20 : Int32)), .val (.int (37 : Int32)), .unset] [(.ref bb_63)])) rfl (by rw [hml]; rfl) (Steps.refl _) (argsL := []) (rest := []) (lenOf pd___I rfl) rfl (by show 2 * 0 + _ ≤ _; exact Nat.le_of_eq rfl) (hb hby at_49) (fun _ _ => ⟨rfl, e69, (by decide : 0 + 0 ≤ _), (by decide : 0 + 0 ≤ _)⟩)
      dsimp only [Pt.U, Pt.locs, Pt.cells, Pt.slots] at X72 l72 y72 z72 st72 hQ72
      subst l72 y72 z72
      obtain ⟨rfl, Nq72, e72⟩ := hQ72
      have N72 := Fr.app N63 Nq72
      obtain ⟨T73, X73, e73, st73⟩ := getS2 X72 hx hZ hown (host := "") (Or.inl (hw _ (List.mem_of_getElem? (i := 8) rfl))) Via.refl e72 Sv_INT8 (g := (mkF m 70 #[.val (.int p0), .val (.int kk), .val (.ref bb_63), .val (.int (1 : Int32)), .val (.int (20 : Int32)), .val (.int (37 : Int32)), .val (.int (f_ml kk))] [(.ref bb_63)])) rfl (hb hby at_70)
      obtain ⟨fs, hrT, hrunT, hendT, hWT, hsameT⟩ := X73.leave (v := some (.int (1 : Int32))) (fun h => by rw [Bd.returns] at h; cases h)
      refine ⟨_, _, S70 _ ?_, hrunT, hendT, _, _, rfl, ?_, ⟨_, rfl⟩, hWT, hsameT.mono (by decide) (by decide)⟩
      · show Steps p.tables e below (T69.setTop (mkF m 24 #[.val (.int p0), .val (.int kk), .val (.ref bb_63), .unset, .unset, .unset, .unset] [(.ref v_TIMESTAMP), (.ref bb_63)])) _
        refine XT.acmpYes X69.here hx rfl (pc0 := 24) (pc' := 34) rfl (hb hby at_24) rfl rfl rfl (XT.aa_eq_t (congrArg Value.ref hc24_71)) (by decide) (by decide) ?_
        show Steps p.tables e below (T69.setTop (mkF m 34 #[.val (.int p0), .val (.int kk), .val (.ref bb_63), .unset, .unset, .unset, .unset] [])) _
        refine XS.iconst X69.here hx rfl (hb hby at_34) ?_
        show Steps p.tables e below (T69.setTop (mkF m 35 #[.val (.int p0), .val (.int kk), .val (.ref bb_63), .unset, .unset, .unset, .unset] [(.int (1 : Int32))])) _
        refine XS.goto X69.here hx rfl (pc0 := 35) (pc' := 39) rfl (hb hby at_35) (by decide) (by decide) ?_
        show Steps p.tables e below (T69.setTop (mkF m 39 #[.val (.int p0), .val (.int kk), .val (.ref bb_63), .unset, .unset, .unset, .unset] [(.int (1 : Int32))])) _
        refine XS.istoreN X69.here hx rfl (hb hby at_39) rfl (l' := #[.val (.int p0), .val (.int kk), .val (.ref bb_63), .val (.int (1 : Int32)), .unset, .unset, .unset]) rfl ?_
        show Steps p.tables e below (T69.setTop (mkF m 40 #[.val (.int p0), .val (.int kk), .val (.ref bb_63), .val (.int (1 : Int32)), .unset, .unset, .unset] [])) _
        refine XS.bipush X69.here hx rfl (hb hby at_40) ?_
        show Steps p.tables e below (T69.setTop (mkF m 42 #[.val (.int p0), .val (.int kk), .val (.ref bb_63), .val (.int (1 : Int32)), .unset, .unset, .unset] [(.int (20 : Int32))])) _
        refine XS.istore X69.here hx rfl (hb hby at_42) rfl (l' := #[.val (.int p0), .val (.int kk), .val (.ref bb_63), .val (.int (1 : Int32)), .val (.int (20 : Int32)), .unset, .unset]) rfl ?_
        show Steps p.tables e below (T69.setTop (mkF m 44 #[.val (.int p0), .val (.int kk), .val (.ref bb_63), .val (.int (1 : Int32)), .val (.int (20 : Int32)), .unset, .unset] [])) _
        refine XS.bipush X69.here hx rfl (hb hby at_44) ?_
        show Steps p.tables e below (T69.setTop (mkF m 46 #[.val (.int p0), .val (.int kk), .val (.ref bb_63), .val (.int (1 : Int32)), .val (.int (20 : Int32)), .unset, .unset] [(.int (37 : Int32))])) _
        refine XS.istore X69.here hx rfl (hb hby at_46) rfl (l' := #[.val (.int p0), .val (.int kk), .val (.ref bb_63), .val (.int (1 : Int32)), .val (.int (20 : Int32)), .val (.int (37 : Int32)), .unset]) rfl ?_
        show Steps p.tables e below (T69.setTop (mkF m 48 #[.val (.int p0), .val (.int kk), .val (.ref bb_63), .val (.int (1 : Int32)), .val (.int (20 : Int32)), .val (.int (37 : Int32)), .unset] [])) _
        refine XS.aloadN X69.here hx rfl (hb hby at_48) rfl rfl ?_
        show Steps p.tables e below (T69.setTop (mkF m 49 #[.val (.int p0), .val (.int kk), .val (.ref bb_63), .val (.int (1 : Int32)), .val (.int (20 : Int32)), .val (.int (37 : Int32)), .unset] [(.ref bb_63)])) _
        refine st72.trans ?_
        show Steps p.tables e below (T72.setTop (mkF m 52 #[.val (.int p0), .val (.int kk), .val (.ref bb_63), .val (.int (1 : Int32)), .val (.int (20 : Int32)), .val (.int (37 : Int32)), .unset] [(.int (f_ml kk))])) _
        refine XS.istore X72.here hx rfl (hb hby at_52) rfl (l' := #[.val (.int p0), .val (.int kk), .val (.ref bb_63), .val (.int (1 : Int32)), .val (.int (20 : Int32)), .val (.int (37 : Int32)), .val (.int (f_ml kk))]) rfl ?_
        show Steps p.tables e below (T72.setTop (mkF m 54 #[.val (.int p0), .val (.int kk), .val (.ref bb_63), .val (.int (1 : Int32)), .val (.int (20 : Int32)), .val (.int (37 : Int32)), .val (.int (f_ml kk))] [])) _
        refine XS.iloadN X72.here hx rfl (hb hby at_54) rfl ?_
        show Steps p.tables e below (T72.setTop (mkF m 55 #[.val (.int p0), .val (.int kk), .val (.ref bb_63), .val (.int (1 : Int32)), .val (.int (20 : Int32)), .val (.int (37 : Int32)), .val (.int (f_ml kk))] [(.int (1 : Int32))])) _
        refine XS.ifYes X72.here hx rfl (pc0 := 55) (pc' := 69) rfl (hb hby at_55) rfl (XT.i0_ne_t (by decide)) (by decide) (by decide) ?_
        show Steps p.tables e below (T72.setTop (mkF m 69 #[.val (.int p0), .val (.int kk), .val (.ref bb_63), .val (.int (1 : Int32)), .val (.int (20 : Int32)), .val (.int (37 : Int32)), .val (.int (f_ml kk))] [])) _
        refine XS.aloadN X72.here hx rfl (hb hby at_69) rfl rfl ?_
        show Steps p.tables e below (T72.setTop (mkF m 70 #[.val (.int p0), .val (.int kk), .val (.ref bb_63), .val (.int (1 : Int32)), .val (.int (20 : Int32)), .val (.int (37 : Int32)), .val (.int (f_ml kk))] [(.ref bb_63)])) _
        refine st73 _ ?_
        show Steps p.tables e below (T73.setTop (mkF m 73 #[.val (.int p0), .val (.int kk), .val (.ref bb_63), .val (.int (1 : Int32)), .val (.int (20 : Int32)), .val (.int (37 : Int32)), .val (.int (f_ml kk))] [(.ref v_INT8), (.ref bb_63)])) _
        refine XT.acmpYes X73.here hx rfl (pc0 := 73) (pc' := 89) rfl (hb hby at_73) rfl rfl rfl (XT.aa_ne_t (fun q => hc17_66 (Value.ref.inj q))) (by decide) (by decide) ?_
        show Steps p.tables e below (T73.setTop (mkF m 89 #[.val (.int p0), .val (.int kk), .val (.ref bb_63), .val (.int (1 : Int32)), .val (.int (20 : Int32)), .val (.int (37 : Int32)), .val (.int (f_ml kk))] [])) _
        refine XS.iload X73.here hx rfl (hb hby at_89) rfl ?_
        show Steps p.tables e below (T73.setTop (mkF m 91 #[.val (.int p0), .val (.int kk), .val (.ref bb_63), .val (.int (1 : Int32)), .val (.int (20 : Int32)), .val (.int (37 : Int32)), .val (.int (f_ml kk))] [(.int (f_ml kk))])) _
        refine XS.bipush X73.here hx rfl (hb hby at_91) ?_
        show Steps p.tables e below (T73.setTop (mkF m 93 #[.val (.int p0), .val (.int kk), .val (.ref bb_63), .val (.int (1 : Int32)), .val (.int (20 : Int32)), .val (.int (37 : Int32)), .val (.int (f_ml kk))] [(.int (40 : Int32)), (.int (f_ml kk))])) _
        refine XS.icmpNo X73.here hx rfl (hb hby at_93) rfl (XT.ii_ne_f (by rw [(Value.int.inj (own_uniq f63_1 (hc24_71.symm ▸ Fv_TIMESTAMP_ordinal)) : kk = (13 : Int32))]; decide)) ?_
        show Steps p.tables e below (T73.setTop (mkF m 96 #[.val (.int p0), .val (.int kk), .val (.ref bb_63), .val (.int (1 : Int32)), .val (.int (20 : Int32)), .val (.int (37 : Int32)), .val (.int (f_ml kk))] [])) _
        refine XS.iload X73.here hx rfl (hb hby at_96) rfl ?_
        show Steps p.tables e below (T73.setTop (mkF m 98 #[.val (.int p0), .val (.int kk), .val (.ref bb_63), .val (.int (1 : Int32)), .val (.int (20 : Int32)), .val (.int (37 : Int32)), .val (.int (f_ml kk))] [(.int (f_ml kk))])) _
        refine XS.iload X73.here hx rfl (hb hby at_98) rfl ?_
        show Steps p.tables e below (T73.setTop (mkF m 100 #[.val (.int p0), .val (.int kk), .val (.ref bb_63), .val (.int (1 : Int32)), .val (.int (20 : Int32)), .val (.int (37 : Int32)), .val (.int (f_ml kk))] [(.int (37 : Int32)), (.int (f_ml kk))])) _
        refine XS.icmpNo X73.here hx rfl (hb hby at_100) rfl (XT.ii_lt_f (by rw [(Value.int.inj (own_uniq f63_1 (hc24_71.symm ▸ Fv_TIMESTAMP_ordinal)) : kk = (13 : Int32))]; decide)) ?_
        show Steps p.tables e below (T73.setTop (mkF m 103 #[.val (.int p0), .val (.int kk), .val (.ref bb_63), .val (.int (1 : Int32)), .val (.int (20 : Int32)), .val (.int (37 : Int32)), .val (.int (f_ml kk))] [])) _
        refine XS.iconst X73.here hx rfl (hb hby at_103) ?_
        show Steps p.tables e below (T73.setTop (mkF m 104 #[.val (.int p0), .val (.int kk), .val (.ref bb_63), .val (.int (1 : Int32)), .val (.int (20 : Int32)), .val (.int (37 : Int32)), .val (.int (f_ml kk))] [(.int (1 : Int32))])) _
        refine XS.goto X73.here hx rfl (pc0 := 104) (pc' := 108) rfl (hb hby at_104) (by decide) (by decide) ?_
        show Steps p.tables e below (T73.setTop (mkF m 108 #[.val (.int p0), .val (.int kk), .val (.ref bb_63), .val (.int (1 : Int32)), .val (.int (20 : Int32)), .val (.int (37 : Int32)), .val (.int (f_ml kk))] [(.int (1 : Int32))])) _
        exact retN X73 hx (t := .boolean) Bd.returns (by simp) (hb hby at_108) hrT
      · show Q0 Z p0 v_BOOL v_INT8 v_TIMESTAMP v_TIMESTAMPTZ v_VARCHAR v_BPCHAR v_NAME v_INT4 v_DATE v_NUMERIC v_FLOAT4 v_INT2 v_TIME v_TEXT v_FLOAT8 h0 n0 _ T73.heap _
        rw [e73]
        exact ⟨rfl, N72⟩
    case neg =>
      obtain ⟨T74, X74, e74, st74⟩ := getS2 X69 hx hZ hown (host := "") (Or.inl (hw _ (List.mem_of_getElem? (i := 12) rfl))) Via.refl e69 Sv_TIMESTAMPTZ (g := (mkF m 28 #[.val (.int p0), .val (.int kk), .val (.ref bb_63), .unset, .unset, .unset, .unset] [(.ref bb_63)])) rfl (hb hby at_28)
      have S75 : ∀ t, Steps p.tables e below (T74.setTop (mkF m 31 #[.val (.int p0), .val (.int kk), .val (.ref bb_63), .unset, .unset, .unset, .unset] [(.ref v_TIMESTAMPTZ), (.ref bb_63)])) t → Steps p.tables e below (s₁.setTop (entryFrame m #[(.int p0)] maxLocals)) t := by
        intro t kt
        refine S70 _ ?_
        show Steps p.tables e below (T69.setTop (mkF m 24 #[.val (.int p0), .val (.int kk), .val (.ref bb_63), .unset, .unset, .unset, .unset] [(.ref v_TIMESTAMP), (.ref bb_63)])) _
        refine XT.acmpNo X69.here hx rfl (hb hby at_24) rfl rfl rfl (XT.aa_eq_f (fun q => hc24_71 (Value.ref.inj q))) ?_
        show Steps p.tables e below (T69.setTop (mkF m 27 #[.val (.int p0), .val (.int kk), .val (.ref bb_63), .unset, .unset, .unset, .unset] [])) _
        refine XS.aloadN X69.here hx rfl (hb hby at_27) rfl rfl ?_
        show Steps p.tables e below (T69.setTop (mkF m 28 #[.val (.int p0), .val (.int kk), .val (.ref bb_63), .unset, .unset, .unset, .unset] [(.ref bb_63)])) _
        refine st74 _ ?_
        exact kt
      by_cases hc31_76 : bb_63 = v_TIMESTAMPTZ
      case pos =>
        obtain ⟨cq77, kq77, q77a, q77b, q77c⟩ := isOf hZ e74 f63_0
        obtain ⟨_, _, ⟨T77, L77, k77, n77⟩, -, X77, ⟨Lc77, hQ77, l77, y77, z77⟩, st77⟩ := X74.virtualBack hx (y := (⟨"com/example/gatedb/gatedb/pgwire/PgType", "maxLength", "()I"⟩ : MethodName)) (z := (⟨"com/example/gatedb/gatedb/pgwire/PgType", "maxLength", "()I"⟩ : MethodName)) hown (mvT hZ (hw _ (List.mem_of_getElem? (i := 14) rfl))) (mvT hZ (hw _ (List.mem_of_getElem? (i := 15) rfl))) (notFace_of_selects (args := #[]) (mvT hZ (hw _ (List.mem_of_getElem? (i := 17) rfl)))) (mvT hZ (hw _ (List.mem_of_getElem? (i := 17) rfl))) (mvT hZ (hw _ (List.mem_of_getElem? (i := 16) rfl))) (by decide) (backOf (W := 0) (rm2 l Z a0 hw [] bb_63 kk h0 n0 Z0 (by rw [hd_kk]; exact own_mod p0) f63_0 f63_1) hZ (hw _ (List.mem_of_getElem? (i := 18) rfl)) (hw _ (List.mem_of_getElem? (i := 6) rfl)) (by decide) (by decide)) q77a q77c (g := (mkF m 49 #[.val (.int p0), .val (.int kk), .val (.ref bb_63), .val (.int (1 : Int32)), .val (.int (20 : Int32)), .val (.int (37 : Int32)), .unset] [(.ref bb_63)])) rfl (by rw [hml]; rfl) (Steps.refl _) (argsL := []) (rest := []) (lenOf pd___I rfl) rfl (by show 2 * 0 + _ ≤ _; exact Nat.le_of_eq rfl) (hb hby at_49) (fun _ _ => ⟨rfl, e74, (by decide : 0 + 0 ≤ _), (by decide : 0 + 0 ≤ _)⟩)
        dsimp only [Pt.U, Pt.locs, Pt.cells, Pt.slots] at X77 l77 y77 z77 st77 hQ77
        subst l77 y77 z77
        obtain ⟨rfl, Nq77, e77⟩ := hQ77
        have N77 := Fr.app N63 Nq77
        obtain ⟨T78, X78, e78, st78⟩ := getS2 X77 hx hZ hown (host := "") (Or.inl (hw _ (List.mem_of_getElem? (i := 8) rfl))) Via.refl e77 Sv_INT8 (g := (mkF m 70 #[.val (.int p0), .val (.int kk), .val (.ref bb_63), .val (.int (1 : Int32)), .val (.int (20 : Int32)), .val (.int (37 : Int32)), .val (.int (f_ml kk))] [(.ref bb_63)])) rfl (hb hby at_70)
        obtain ⟨fs, hrT, hrunT, hendT, hWT, hsameT⟩ := X78.leave (v := some (.int (1 : Int32))) (fun h => by rw [Bd.returns] at h; cases h)
        refine ⟨_, _, S75 _ ?_, hrunT, hendT, _, _, rfl, ?_, ⟨_, rfl⟩, hWT, hsameT.mono (by decide) (by decide)⟩
        · show Steps p.tables e below (T74.setTop (mkF m 31 #[.val (.int p0), .val (.int kk), .val (.ref bb_63), .unset, .unset, .unset, .unset] [(.ref v_TIMESTAMPTZ), (.ref bb_63)])) _
          refine XT.acmpNo X74.here hx rfl (hb hby at_31) rfl rfl rfl (XT.aa_ne_f (congrArg Value.ref hc31_76)) ?_
          show Steps p.tables e below (T74.setTop (mkF m 34 #[.val (.int p0), .val (.int kk), .val (.ref bb_63), .unset, .unset, .unset, .unset] [])) _
          refine XS.iconst X74.here hx rfl (hb hby at_34) ?_
          show Steps p.tables e below (T74.setTop (mkF m 35 #[.val (.int p0), .val (.int kk), .val (.ref bb_63), .unset, .unset, .unset, .unset] [(.int (1 : Int32))])) _
          refine XS.goto X74.here hx rfl (pc0 := 35) (pc' := 39) rfl (hb hby at_35) (by decide) (by decide) ?_
          show Steps p.tables e below (T74.setTop (mkF m 39 #[.val (.int p0), .val (.int kk), .val (.ref bb_63), .unset, .unset, .unset, .unset] [(.int (1 : Int32))])) _
          refine XS.istoreN X74.here hx rfl (hb hby at_39) rfl (l' := #[.val (.int p0), .val (.int kk), .val (.ref bb_63), .val (.int (1 : Int32)), .unset, .unset, .unset]) rfl ?_
          show Steps p.tables e below (T74.setTop (mkF m 40 #[.val (.int p0), .val (.int kk), .val (.ref bb_63), .val (.int (1 : Int32)), .unset, .unset, .unset] [])) _
          refine XS.bipush X74.here hx rfl (hb hby at_40) ?_
          show Steps p.tables e below (T74.setTop (mkF m 42 #[.val (.int p0), .val (.int kk), .val (.ref bb_63), .val (.int (1 : Int32)), .unset, .unset, .unset] [(.int (20 : Int32))])) _
          refine XS.istore X74.here hx rfl (hb hby at_42) rfl (l' := #[.val (.int p0), .val (.int kk), .val (.ref bb_63), .val (.int (1 : Int32)), .val (.int (20 : Int32)), .unset, .unset]) rfl ?_
          show Steps p.tables e below (T74.setTop (mkF m 44 #[.val (.int p0), .val (.int kk), .val (.ref bb_63), .val (.int (1 : Int32)), .val (.int (20 : Int32)), .unset, .unset] [])) _
          refine XS.bipush X74.here hx rfl (hb hby at_44) ?_
          show Steps p.tables e below (T74.setTop (mkF m 46 #[.val (.int p0), .val (.int kk), .val (.ref bb_63), .val (.int (1 : Int32)), .val (.int (20 : Int32)), .unset, .unset] [(.int (37 : Int32))])) _
          refine XS.istore X74.here hx rfl (hb hby at_46) rfl (l' := #[.val (.int p0), .val (.int kk), .val (.ref bb_63), .val (.int (1 : Int32)), .val (.int (20 : Int32)), .val (.int (37 : Int32)), .unset]) rfl ?_
          show Steps p.tables e below (T74.setTop (mkF m 48 #[.val (.int p0), .val (.int kk), .val (.ref bb_63), .val (.int (1 : Int32)), .val (.int (20 : Int32)), .val (.int (37 : Int32)), .unset] [])) _
          refine XS.aloadN X74.here hx rfl (hb hby at_48) rfl rfl ?_
          show Steps p.tables e below (T74.setTop (mkF m 49 #[.val (.int p0), .val (.int kk), .val (.ref bb_63), .val (.int (1 : Int32)), .val (.int (20 : Int32)), .val (.int (37 : Int32)), .unset] [(.ref bb_63)])) _
          refine st77.trans ?_
          show Steps p.tables e below (T77.setTop (mkF m 52 #[.val (.int p0), .val (.int kk), .val (.ref bb_63), .val (.int (1 : Int32)), .val (.int (20 : Int32)), .val (.int (37 : Int32)), .unset] [(.int (f_ml kk))])) _
          refine XS.istore X77.here hx rfl (hb hby at_52) rfl (l' := #[.val (.int p0), .val (.int kk), .val (.ref bb_63), .val (.int (1 : Int32)), .val (.int (20 : Int32)), .val (.int (37 : Int32)), .val (.int (f_ml kk))]) rfl ?_
          show Steps p.tables e below (T77.setTop (mkF m 54 #[.val (.int p0), .val (.int kk), .val (.ref bb_63), .val (.int (1 : Int32)), .val (.int (20 : Int32)), .val (.int (37 : Int32)), .val (.int (f_ml kk))] [])) _
          refine XS.iloadN X77.here hx rfl (hb hby at_54) rfl ?_
          show Steps p.tables e below (T77.setTop (mkF m 55 #[.val (.int p0), .val (.int kk), .val (.ref bb_63), .val (.int (1 : Int32)), .val (.int (20 : Int32)), .val (.int (37 : Int32)), .val (.int (f_ml kk))] [(.int (1 : Int32))])) _
          refine XS.ifYes X77.here hx rfl (pc0 := 55) (pc' := 69) rfl (hb hby at_55) rfl (XT.i0_ne_t (by decide)) (by decide) (by decide) ?_
          show Steps p.tables e below (T77.setTop (mkF m 69 #[.val (.int p0), .val (.int kk), .val (.ref bb_63), .val (.int (1 : Int32)), .val (.int (20 : Int32)), .val (.int (37 : Int32)), .val (.int (f_ml kk))] [])) _
          refine XS.aloadN X77.here hx rfl (hb hby at_69) rfl rfl ?_
          show Steps p.tables e below (T77.setTop (mkF m 70 #[.val (.int p0), .val (.int kk), .val (.ref bb_63), .val (.int (1 : Int32)), .val (.int (20 : Int32)), .val (.int (37 : Int32)), .val (.int (f_ml kk))] [(.ref bb_63)])) _
          refine st78 _ ?_
          show Steps p.tables e below (T78.setTop (mkF m 73 #[.val (.int p0), .val (.int kk), .val (.ref bb_63), .val (.int (1 : Int32)), .val (.int (20 : Int32)), .val (.int (37 : Int32)), .val (.int (f_ml kk))] [(.ref v_INT8), (.ref bb_63)])) _
          refine XT.acmpYes X78.here hx rfl (pc0 := 73) (pc' := 89) rfl (hb hby at_73) rfl rfl rfl (XT.aa_ne_t (fun q => hc17_66 (Value.ref.inj q))) (by decide) (by decide) ?_
          show Steps p.tables e below (T78.setTop (mkF m 89 #[.val (.int p0), .val (.int kk), .val (.ref bb_63), .val (.int (1 : Int32)), .val (.int (20 : Int32)), .val (.int (37 : Int32)), .val (.int (f_ml kk))] [])) _
          refine XS.iload X78.here hx rfl (hb hby at_89) rfl ?_
          show Steps p.tables e below (T78.setTop (mkF m 91 #[.val (.int p0), .val (.int kk), .val (.ref bb_63), .val (.int (1 : Int32)), .val (.int (20 : Int32)), .val (.int (37 : Int32)), .val (.int (f_ml kk))] [(.int (f_ml kk))])) _
          refine XS.bipush X78.here hx rfl (hb hby at_91) ?_
          show Steps p.tables e below (T78.setTop (mkF m 93 #[.val (.int p0), .val (.int kk), .val (.ref bb_63), .val (.int (1 : Int32)), .val (.int (20 : Int32)), .val (.int (37 : Int32)), .val (.int (f_ml kk))] [(.int (40 : Int32)), (.int (f_ml kk))])) _
          refine XS.icmpNo X78.here hx rfl (hb hby at_93) rfl (XT.ii_ne_f (by rw [(Value.int.inj (own_uniq f63_1 (hc31_76.symm ▸ Fv_TIMESTAMPTZ_ordinal)) : kk = (14 : Int32))]; decide)) ?_
          show Steps p.tables e below (T78.setTop (mkF m 96 #[.val (.int p0), .val (.int kk), .val (.ref bb_63), .val (.int (1 : Int32)), .val (.int (20 : Int32)), .val (.int (37 : Int32)), .val (.int (f_ml kk))] [])) _
          refine XS.iload X78.here hx rfl (hb hby at_96) rfl ?_
          show Steps p.tables e below (T78.setTop (mkF m 98 #[.val (.int p0), .val (.int kk), .val (.ref bb_63), .val (.int (1 : Int32)), .val (.int (20 : Int32)), .val (.int (37 : Int32)), .val (.int (f_ml kk))] [(.int (f_ml kk))])) _
          refine XS.iload X78.here hx rfl (hb hby at_98) rfl ?_
          show Steps p.tables e below (T78.setTop (mkF m 100 #[.val (.int p0), .val (.int kk), .val (.ref bb_63), .val (.int (1 : Int32)), .val (.int (20 : Int32)), .val (.int (37 : Int32)), .val (.int (f_ml kk))] [(.int (37 : Int32)), (.int (f_ml kk))])) _
          refine XS.icmpNo X78.here hx rfl (hb hby at_100) rfl (XT.ii_lt_f (by rw [(Value.int.inj (own_uniq f63_1 (hc31_76.symm ▸ Fv_TIMESTAMPTZ_ordinal)) : kk = (14 : Int32))]; decide)) ?_
          show Steps p.tables e below (T78.setTop (mkF m 103 #[.val (.int p0), .val (.int kk), .val (.ref bb_63), .val (.int (1 : Int32)), .val (.int (20 : Int32)), .val (.int (37 : Int32)), .val (.int (f_ml kk))] [])) _
          refine XS.iconst X78.here hx rfl (hb hby at_103) ?_
          show Steps p.tables e below (T78.setTop (mkF m 104 #[.val (.int p0), .val (.int kk), .val (.ref bb_63), .val (.int (1 : Int32)), .val (.int (20 : Int32)), .val (.int (37 : Int32)), .val (.int (f_ml kk))] [(.int (1 : Int32))])) _
          refine XS.goto X78.here hx rfl (pc0 := 104) (pc' := 108) rfl (hb hby at_104) (by decide) (by decide) ?_
          show Steps p.tables e below (T78.setTop (mkF m 108 #[.val (.int p0), .val (.int kk), .val (.ref bb_63), .val (.int (1 : Int32)), .val (.int (20 : Int32)), .val (.int (37 : Int32)), .val (.int (f_ml kk))] [(.int (1 : Int32))])) _
          exact retN X78 hx (t := .boolean) Bd.returns (by simp) (hb hby at_108) hrT
        · show Q0 Z p0 v_BOOL v_INT8 v_TIMESTAMP v_TIMESTAMPTZ v_VARCHAR v_BPCHAR v_NAME v_INT4 v_DATE v_NUMERIC v_FLOAT4 v_INT2 v_TIME v_TEXT v_FLOAT8 h0 n0 _ T78.heap _
          rw [e78]
          exact ⟨rfl, N77⟩
      case neg =>
        obtain ⟨cq79, kq79, q79a, q79b, q79c⟩ := isOf hZ e74 f63_0
        obtain ⟨_, _, ⟨T79, L79, k79, n79⟩, -, X79, ⟨Lc79, hQ79, l79, y79, z79⟩, st79⟩ := X74.virtualBack hx (y := (⟨"com/example/gatedb/gatedb/pgwire/PgType", "maxLength", "()I"⟩ : MethodName)) (z := (⟨"com/example/gatedb/gatedb/pgwire/PgType", "maxLength", "()I"⟩ : MethodName)) hown (mvT hZ (hw _ (List.mem_of_getElem? (i := 14) rfl))) (mvT hZ (hw _ (List.mem_of_getElem? (i := 15) rfl))) (notFace_of_selects (args := #[]) (mvT hZ (hw _ (List.mem_of_getElem? (i := 17) rfl)))) (mvT hZ (hw _ (List.mem_of_getElem? (i := 17) rfl))) (mvT hZ (hw _ (List.mem_of_getElem? (i := 16) rfl))) (by decide) (backOf (W := 0) (rm2 l Z a0 hw [] bb_63 kk h0 n0 Z0 (by rw [hd_kk]; exact own_mod p0) f63_0 f63_1) hZ (hw _ (List.mem_of_getElem? (i := 18) rfl)) (hw _ (List.mem_of_getElem? (i := 6) rfl)) (by decide) (by decide)) q79a q79c (g := (mkF m 49 #[.val (.int p0), .val (.int kk), .val (.ref bb_63), .val (.int (0 : Int32)), .val (.int (20 : Int32)), .val (.int (37 : Int32)), .unset] [(.ref bb_63)])) rfl (by rw [hml]; rfl) (Steps.refl _) (argsL := []) (rest := []) (lenOf pd___I rfl) rfl (by show 2 * 0 + _ ≤ _; exact Nat.le_of_eq rfl) (hb hby at_49) (fun _ _ => ⟨rfl, e74, (by decide : 0 + 0 ≤ _), (by decide : 0 + 0 ≤ _)⟩)
        dsimp only [Pt.U, Pt.locs, Pt.cells, Pt.slots] at X79 l79 y79 z79 st79 hQ79
        subst l79 y79 z79
        obtain ⟨rfl, Nq79, e79⟩ := hQ79
        have N79 := Fr.app N63 Nq79
        obtain ⟨fs, hrT, hrunT, hendT, hWT, hsameT⟩ := X79.leave (v := some (.int (1 : Int32))) (fun h => by rw [Bd.returns] at h; cases h)
        refine ⟨_, _, S75 _ ?_, hrunT, hendT, _, _, rfl, ?_, ⟨_, rfl⟩, hWT, hsameT.mono (by decide) (by decide)⟩
        · show Steps p.tables e below (T74.setTop (mkF m 31 #[.val (.int p0), .val (.int kk), .val (.ref bb_63), .unset, .unset, .unset, .unset] [(.ref v_TIMESTAMPTZ), (.ref bb_63)])) _
          refine XT.acmpYes X74.here hx rfl (pc0 := 31) (pc' := 38) rfl (hb hby at_31) rfl rfl rfl (XT.aa_ne_t (fun q => hc31_76 (Value.ref.inj q))) (by decide) (by decide) ?_
          show Steps p.tables e below (T74.setTop (mkF m 38 #[.val (.int p0), .val (.int kk), .val (.ref bb_63), .unset, .unset, .unset, .unset] [])) _
          refine XS.iconst X74.here hx rfl (hb hby at_38) ?_
          show Steps p.tables e below (T74.setTop (mkF m 39 #[.val (.int p0), .val (.int kk), .val (.ref bb_63), .unset, .unset, .unset, .unset] [(.int (0 : Int32))])) _
          refine XS.istoreN X74.here hx rfl (hb hby at_39) rfl (l' := #[.val (.int p0), .val (.int kk), .val (.ref bb_63), .val (.int (0 : Int32)), .unset, .unset, .unset]) rfl ?_
          show Steps p.tables e below (T74.setTop (mkF m 40 #[.val (.int p0), .val (.int kk), .val (.ref bb_63), .val (.int (0 : Int32)), .unset, .unset, .unset] [])) _
          refine XS.bipush X74.here hx rfl (hb hby at_40) ?_
          show Steps p.tables e below (T74.setTop (mkF m 42 #[.val (.int p0), .val (.int kk), .val (.ref bb_63), .val (.int (0 : Int32)), .unset, .unset, .unset] [(.int (20 : Int32))])) _
          refine XS.istore X74.here hx rfl (hb hby at_42) rfl (l' := #[.val (.int p0), .val (.int kk), .val (.ref bb_63), .val (.int (0 : Int32)), .val (.int (20 : Int32)), .unset, .unset]) rfl ?_
          show Steps p.tables e below (T74.setTop (mkF m 44 #[.val (.int p0), .val (.int kk), .val (.ref bb_63), .val (.int (0 : Int32)), .val (.int (20 : Int32)), .unset, .unset] [])) _
          refine XS.bipush X74.here hx rfl (hb hby at_44) ?_
          show Steps p.tables e below (T74.setTop (mkF m 46 #[.val (.int p0), .val (.int kk), .val (.ref bb_63), .val (.int (0 : Int32)), .val (.int (20 : Int32)), .unset, .unset] [(.int (37 : Int32))])) _
          refine XS.istore X74.here hx rfl (hb hby at_46) rfl (l' := #[.val (.int p0), .val (.int kk), .val (.ref bb_63), .val (.int (0 : Int32)), .val (.int (20 : Int32)), .val (.int (37 : Int32)), .unset]) rfl ?_
          show Steps p.tables e below (T74.setTop (mkF m 48 #[.val (.int p0), .val (.int kk), .val (.ref bb_63), .val (.int (0 : Int32)), .val (.int (20 : Int32)), .val (.int (37 : Int32)), .unset] [])) _
          refine XS.aloadN X74.here hx rfl (hb hby at_48) rfl rfl ?_
          show Steps p.tables e below (T74.setTop (mkF m 49 #[.val (.int p0), .val (.int kk), .val (.ref bb_63), .val (.int (0 : Int32)), .val (.int (20 : Int32)), .val (.int (37 : Int32)), .unset] [(.ref bb_63)])) _
          refine st79.trans ?_
          show Steps p.tables e below (T79.setTop (mkF m 52 #[.val (.int p0), .val (.int kk), .val (.ref bb_63), .val (.int (0 : Int32)), .val (.int (20 : Int32)), .val (.int (37 : Int32)), .unset] [(.int (f_ml kk))])) _
          refine XS.istore X79.here hx rfl (hb hby at_52) rfl (l' := #[.val (.int p0), .val (.int kk), .val (.ref bb_63), .val (.int (0 : Int32)), .val (.int (20 : Int32)), .val (.int (37 : Int32)), .val (.int (f_ml kk))]) rfl ?_
          show Steps p.tables e below (T79.setTop (mkF m 54 #[.val (.int p0), .val (.int kk), .val (.ref bb_63), .val (.int (0 : Int32)), .val (.int (20 : Int32)), .val (.int (37 : Int32)), .val (.int (f_ml kk))] [])) _
          refine XS.iloadN X79.here hx rfl (hb hby at_54) rfl ?_
          show Steps p.tables e below (T79.setTop (mkF m 55 #[.val (.int p0), .val (.int kk), .val (.ref bb_63), .val (.int (0 : Int32)), .val (.int (20 : Int32)), .val (.int (37 : Int32)), .val (.int (f_ml kk))] [(.int (0 : Int32))])) _
          refine XS.ifNo X79.here hx rfl (hb hby at_55) rfl (XT.i0_ne_f (by decide)) ?_
          show Steps p.tables e below (T79.setTop (mkF m 58 #[.val (.int p0), .val (.int kk), .val (.ref bb_63), .val (.int (0 : Int32)), .val (.int (20 : Int32)), .val (.int (37 : Int32)), .val (.int (f_ml kk))] [])) _
          refine XS.iload X79.here hx rfl (hb hby at_58) rfl ?_
          show Steps p.tables e below (T79.setTop (mkF m 60 #[.val (.int p0), .val (.int kk), .val (.ref bb_63), .val (.int (0 : Int32)), .val (.int (20 : Int32)), .val (.int (37 : Int32)), .val (.int (f_ml kk))] [(.int (f_ml kk))])) _
          refine XS.ifNo X79.here hx rfl (hb hby at_60) rfl (XT.i0_ne_f (own_0 (by rw [hd_kk]; exact own_mod p0) (fun q => hc17_66 (f63_2 q)) (fun q => hc24_71 (f63_3 q)) (fun q => hc31_76 (f63_4 q)))) ?_
          show Steps p.tables e below (T79.setTop (mkF m 63 #[.val (.int p0), .val (.int kk), .val (.ref bb_63), .val (.int (0 : Int32)), .val (.int (20 : Int32)), .val (.int (37 : Int32)), .val (.int (f_ml kk))] [])) _
          refine XS.iconst X79.here hx rfl (hb hby at_63) ?_
          show Steps p.tables e below (T79.setTop (mkF m 64 #[.val (.int p0), .val (.int kk), .val (.ref bb_63), .val (.int (0 : Int32)), .val (.int (20 : Int32)), .val (.int (37 : Int32)), .val (.int (f_ml kk))] [(.int (1 : Int32))])) _
          refine XS.goto X79.here hx rfl (pc0 := 64) (pc' := 68) rfl (hb hby at_64) (by decide) (by decide) ?_
          show Steps p.tables e below (T79.setTop (mkF m 68 #[.val (.int p0), .val (.int kk), .val (.ref bb_63), .val (.int (0 : Int32)), .val (.int (20 : Int32)), .val (.int (37 : Int32)), .val (.int (f_ml kk))] [(.int (1 : Int32))])) _
          exact retN X79 hx (t := .boolean) Bd.returns (by simp) (hb hby at_68) hrT
        · show Q0 Z p0 v_BOOL v_INT8 v_TIMESTAMP v_TIMESTAMPTZ v_VARCHAR v_BPCHAR v_NAME v_INT4 v_DATE v_NUMERIC v_FLOAT4 v_INT2 v_TIME v_TEXT v_FLOAT8 h0 n0 _ T79.heap _
          rw [e79]
          exact ⟨rfl, N79⟩
set_option maxRecDepth 65536 in
set_option maxHeartbeats 40000000 in
theorem comes_1 {Post : Tables → Env → Array Value → State → Outcome → State → Prop} (hpost : ∀ tb e args s v u, (limb_1_1.after args s (.returned v) u = true ∧ limb_1_2.after args s (.returned v) u = true ∧ True) → FrameEnd s (.returned v) u (Jvm.fieldLocs frame_1_writes args s ++ Jvm.arrayLocs frame_1_arrays args s ++ Jvm.staticLocs frame_1_statics s) 0 0 → Post tb e args s (.returned v) u) :
    ArmFor flags0 classFile x code maxLocals ret World_1 tables_1 room_1 Calls_1 rest_1 Pre_1 Post := by
  intro l hfl _ _ p e ha hc hk s m args below hf hA hF happ hP
  obtain ⟨hcalls, hrest, hpre⟩ := hP
  obtain ⟨-, -, -, hnamed, -, -, -, hat⟩ := (Spec.applies_iff hf).mp happ
  obtain ⟨hg, hn⟩ := and_e (Cond.before_iff.mp (show (Jvm.Cond.and given_1 narrow_1).before args s = true from hpre))
  obtain ⟨gc, gr0⟩ := and_e hg
  have ga0 := gr0
  obtain ⟨w0, rfl⟩ : ∃ w0 : Value, args = #[w0] := by
    have hs : args.size = 1 := by simpa [Cond.value, given_1] using gc
    obtain ⟨L⟩ := args
    match L, hs with
    | [w0], _ => exact ⟨w0, rfl⟩
  have hw := fun d (hd : d ∈ tables_1) => atoms_spec (ws := Jvm.Cond.code x code maxLocals ret :: tables_1) hat d (List.mem_cons_of_mem _ hd)
  have hfit : Fit s := fun {y c} hc i hi => by
    obtain ⟨ha, rfl⟩ := Array.getElem?_eq_some_iff.mp hc
    have q := List.all_eq_true.mp ((Array.all_eq_true_iff_forall_mem.mp hF) _ (Array.getElem_mem ha)) i (List.mem_range.mpr hi)
    simpa [Array.getElem?_eq_getElem hi] using q
  obtain ⟨i0, ei0⟩ := is_v ga0
  obtain rfl : w0 = (.int i0) := Option.some.inj ei0
  have nr0 := hn
  obtain ⟨nn0, nr1⟩ := and_e nr0
  obtain ⟨nn1, nr2⟩ := and_e nr1
  obtain ⟨nn2, nr3⟩ := and_e nr2
  obtain ⟨nn3, nr4⟩ := and_e nr3
  obtain ⟨nn4, nr5⟩ := and_e nr4
  obtain ⟨nn5, nr6⟩ := and_e nr5
  obtain ⟨nn6, nr7⟩ := and_e nr6
  obtain ⟨nn7, nr8⟩ := and_e nr7
  obtain ⟨nn8, nr9⟩ := and_e nr8
  obtain ⟨nn9, nr10⟩ := and_e nr9
  obtain ⟨nn10, nr11⟩ := and_e nr10
  obtain ⟨nn11, nr12⟩ := and_e nr11
  obtain ⟨nn12, nr13⟩ := and_e nr12
  obtain ⟨nn13, nr14⟩ := and_e nr13
  obtain ⟨nn14, nr15⟩ := and_e nr14
  obtain ⟨nn15, nr16⟩ := and_e nr15
  obtain ⟨nn16, nr17⟩ := and_e nr16
  obtain ⟨nn17, nr18⟩ := and_e nr17
  obtain ⟨nn18, nr19⟩ := and_e nr18
  obtain ⟨nn19, nr20⟩ := and_e nr19
  obtain ⟨nn20, nr21⟩ := and_e nr20
  obtain ⟨nn21, nr22⟩ := and_e nr21
  obtain ⟨nn22, nr23⟩ := and_e nr22
  obtain ⟨nn23, nr24⟩ := and_e nr23
  obtain ⟨nn24, nr25⟩ := and_e nr24
  obtain ⟨nn25, nr26⟩ := and_e nr25
  obtain ⟨nn26, nr27⟩ := and_e nr26
  obtain ⟨nn27, nr28⟩ := and_e nr27
  obtain ⟨nn28, nr29⟩ := and_e nr28
  have nn29 := nr29
  obtain ⟨v_BOOL, ev_BOOL⟩ := exa_v nn0
  have Ev_BOOL := Exa.start ev_BOOL nn0
  have Sv_BOOL := Sta.start ev_BOOL (Or.inr ⟨(hw _ (List.mem_of_getElem? (i := 6) rfl)), (hw _ (List.mem_of_getElem? (i := 7) rfl))⟩)
  obtain ⟨v_INT8, ev_INT8⟩ := exa_v nn1
  have Ev_INT8 := Exa.start ev_INT8 nn1
  have Sv_INT8 := Sta.start ev_INT8 (Or.inr ⟨(hw _ (List.mem_of_getElem? (i := 6) rfl)), (hw _ (List.mem_of_getElem? (i := 9) rfl))⟩)
  obtain ⟨v_TIMESTAMP, ev_TIMESTAMP⟩ := exa_v nn4
  have Ev_TIMESTAMP := Exa.start ev_TIMESTAMP nn4
  have Sv_TIMESTAMP := Sta.start ev_TIMESTAMP (Or.inr ⟨(hw _ (List.mem_of_getElem? (i := 6) rfl)), (hw _ (List.mem_of_getElem? (i := 11) rfl))⟩)
  obtain ⟨v_TIMESTAMPTZ, ev_TIMESTAMPTZ⟩ := exa_v nn6
  have Ev_TIMESTAMPTZ := Exa.start ev_TIMESTAMPTZ nn6
  have Sv_TIMESTAMPTZ := Sta.start ev_TIMESTAMPTZ (Or.inr ⟨(hw _ (List.mem_of_getElem? (i := 6) rfl)), (hw _ (List.mem_of_getElem? (i := 13) rfl))⟩)
  obtain ⟨v_VARCHAR, ev_VARCHAR⟩ := exa_v nn8
  have Ev_VARCHAR := Exa.start ev_VARCHAR nn8
  have Sv_VARCHAR := Sta.start ev_VARCHAR (Or.inr ⟨(hw _ (List.mem_of_getElem? (i := 6) rfl)), (hw _ (List.mem_of_getElem? (i := 29) rfl))⟩)
  obtain ⟨v_BPCHAR, ev_BPCHAR⟩ := exa_v nn10
  have Ev_BPCHAR := Exa.start ev_BPCHAR nn10
  have Sv_BPCHAR := Sta.start ev_BPCHAR (Or.inr ⟨(hw _ (List.mem_of_getElem? (i := 6) rfl)), (hw _ (List.mem_of_getElem? (i := 31) rfl))⟩)
  obtain ⟨v_NAME, ev_NAME⟩ := exa_v nn12
  have Ev_NAME := Exa.start ev_NAME nn12
  have Sv_NAME := Sta.start ev_NAME (Or.inr ⟨(hw _ (List.mem_of_getElem? (i := 6) rfl)), (hw _ (List.mem_of_getElem? (i := 33) rfl))⟩)
  obtain ⟨v_INT4, ev_INT4⟩ := exa_v nn14
  have Ev_INT4 := Exa.start ev_INT4 nn14
  have Sv_INT4 := Sta.start ev_INT4 (Or.inr ⟨(hw _ (List.mem_of_getElem? (i := 6) rfl)), (hw _ (List.mem_of_getElem? (i := 35) rfl))⟩)
  obtain ⟨v_DATE, ev_DATE⟩ := exa_v nn16
  have Ev_DATE := Exa.start ev_DATE nn16
  have Sv_DATE := Sta.start ev_DATE (Or.inr ⟨(hw _ (List.mem_of_getElem? (i := 6) rfl)), (hw _ (List.mem_of_getElem? (i := 37) rfl))⟩)
  obtain ⟨v_NUMERIC, ev_NUMERIC⟩ := exa_v nn18
  have Ev_NUMERIC := Exa.start ev_NUMERIC nn18
  have Sv_NUMERIC := Sta.start ev_NUMERIC (Or.inr ⟨(hw _ (List.mem_of_getElem? (i := 6) rfl)), (hw _ (List.mem_of_getElem? (i := 39) rfl))⟩)
  obtain ⟨v_FLOAT4, ev_FLOAT4⟩ := exa_v nn20
  have Ev_FLOAT4 := Exa.start ev_FLOAT4 nn20
  have Sv_FLOAT4 := Sta.start ev_FLOAT4 (Or.inr ⟨(hw _ (List.mem_of_getElem? (i := 6) rfl)), (hw _ (List.mem_of_getElem? (i := 41) rfl))⟩)
  obtain ⟨v_INT2, ev_INT2⟩ := exa_v nn22
  have Ev_INT2 := Exa.start ev_INT2 nn22
  have Sv_INT2 := Sta.start ev_INT2 (Or.inr ⟨(hw _ (List.mem_of_getElem? (i := 6) rfl)), (hw _ (List.mem_of_getElem? (i := 43) rfl))⟩)
  obtain ⟨v_TIME, ev_TIME⟩ := exa_v nn24
  have Ev_TIME := Exa.start ev_TIME nn24
  have Sv_TIME := Sta.start ev_TIME (Or.inr ⟨(hw _ (List.mem_of_getElem? (i := 6) rfl)), (hw _ (List.mem_of_getElem? (i := 45) rfl))⟩)
  obtain ⟨v_TEXT, ev_TEXT⟩ := exa_v nn26
  have Ev_TEXT := Exa.start ev_TEXT nn26
  have Sv_TEXT := Sta.start ev_TEXT (Or.inr ⟨(hw _ (List.mem_of_getElem? (i := 6) rfl)), (hw _ (List.mem_of_getElem? (i := 47) rfl))⟩)
  obtain ⟨v_FLOAT8, ev_FLOAT8⟩ := exa_v nn28
  have Ev_FLOAT8 := Exa.start ev_FLOAT8 nn28
  have Sv_FLOAT8 := Sta.start ev_FLOAT8 (Or.inr ⟨(hw _ (List.mem_of_getElem? (i := 6) rfl)), (hw _ (List.mem_of_getElem? (i := 49) rfl))⟩)
  have Fv_BOOL_ordinal := own_fld ev_BOOL (Term.int_eval _) (Or.inl ⟨_, rfl⟩) nn2
  have Fv_INT8_ordinal := own_fld ev_INT8 (Term.int_eval _) (Or.inl ⟨_, rfl⟩) nn3
  have Fv_TIMESTAMP_ordinal := own_fld ev_TIMESTAMP (Term.int_eval _) (Or.inl ⟨_, rfl⟩) nn5
  have Fv_TIMESTAMPTZ_ordinal := own_fld ev_TIMESTAMPTZ (Term.int_eval _) (Or.inl ⟨_, rfl⟩) nn7
  have Fv_VARCHAR_ordinal := own_fld ev_VARCHAR (Term.int_eval _) (Or.inl ⟨_, rfl⟩) nn9
  have Fv_BPCHAR_ordinal := own_fld ev_BPCHAR (Term.int_eval _) (Or.inl ⟨_, rfl⟩) nn11
  have Fv_NAME_ordinal := own_fld ev_NAME (Term.int_eval _) (Or.inl ⟨_, rfl⟩) nn13
  have Fv_INT4_ordinal := own_fld ev_INT4 (Term.int_eval _) (Or.inl ⟨_, rfl⟩) nn15
  have Fv_DATE_ordinal := own_fld ev_DATE (Term.int_eval _) (Or.inl ⟨_, rfl⟩) nn17
  have Fv_NUMERIC_ordinal := own_fld ev_NUMERIC (Term.int_eval _) (Or.inl ⟨_, rfl⟩) nn19
  have Fv_FLOAT4_ordinal := own_fld ev_FLOAT4 (Term.int_eval _) (Or.inl ⟨_, rfl⟩) nn21
  have Fv_INT2_ordinal := own_fld ev_INT2 (Term.int_eval _) (Or.inl ⟨_, rfl⟩) nn23
  have Fv_TIME_ordinal := own_fld ev_TIME (Term.int_eval _) (Or.inl ⟨_, rfl⟩) nn25
  have Fv_TEXT_ordinal := own_fld ev_TEXT (Term.int_eval _) (Or.inl ⟨_, rfl⟩) nn27
  have Fv_FLOAT8_ordinal := own_fld ev_FLOAT8 (Term.int_eval _) (Or.inl ⟨_, rfl⟩) nn29
  obtain ⟨n, o, h1, h2, h3, _, L, rfl, ⟨rfl, N⟩, hq⟩ := rm0 l s _ hw tables_1 i0 v_BOOL v_INT8 v_TIMESTAMP v_TIMESTAMPTZ v_VARCHAR v_BPCHAR v_NAME v_INT4 v_DATE v_NUMERIC v_FLOAT4 v_INT2 v_TIME v_TEXT v_FLOAT8 s.heap s.heap.size (Nat.le_refl _) Sv_BOOL Ev_BOOL Sv_INT8 Ev_INT8 Sv_TIMESTAMP Ev_TIMESTAMP Sv_TIMESTAMPTZ Ev_TIMESTAMPTZ Sv_VARCHAR Ev_VARCHAR Sv_BPCHAR Ev_BPCHAR Sv_NAME Ev_NAME Sv_INT4 Ev_INT4 Sv_DATE Ev_DATE Sv_NUMERIC Ev_NUMERIC Sv_FLOAT4 Ev_FLOAT4 Sv_INT2 Ev_INT2 Sv_TIME Ev_TIME Sv_TEXT Ev_TEXT Sv_FLOAT8 Ev_FLOAT8 Fv_BOOL_ordinal Fv_INT8_ordinal Fv_TIMESTAMP_ordinal Fv_TIMESTAMPTZ_ordinal Fv_VARCHAR_ordinal Fv_BPCHAR_ordinal Fv_NAME_ordinal Fv_INT4_ordinal Fv_DATE_ordinal Fv_NUMERIC_ordinal Fv_FLOAT4_ordinal Fv_INT2_ordinal Fv_TIME_ordinal Fv_TEXT_ordinal Fv_FLOAT8_ordinal p e ha hc hk s m _ below hf ((Spec.applies_iff_loose hf).mp happ).1 ⟨rfl, State.Warmed39.refl s, rfl⟩ trivial
  refine ⟨n, _, h1, h2, h3, hpost _ _ _ _ _ _ ⟨Cond.after_iff.mpr rfl, Cond.after_iff.mpr (eq_i res_at (Term.int_eval (1)) rfl), trivial⟩ ⟨hq.1, hq.2.1, (hq.2.2.sift fun y hy => Or.inr (N y hy)).mono (by decide) (by decide)⟩⟩
theorem main_1_1 : Claimed_1_1 := comes_1 fun _ _ _ _ _ _ h hF => ⟨h.1, hF⟩
theorem main_1_2 : Claimed_1_2 := comes_1 fun _ _ _ _ _ _ h hF => ⟨h.2.1, hF⟩
end Jvm.Pilot.@@N@@
namespace Jvm.Pilot.@@N@@
open Jvm Jvm.ClassFile Sem Op Lib Jvm.Free Jvm.Stand Jvm.Pilot.@@N@@.Jvm.D
/-! MADE BY PROGRAM (witnessworld.py) out of the Statement's table words and the real class files: 12 classes; the members and pool entries that the words name. The judged class is class 1, her method 2. -/
namespace start1
open Jvm.ClassFile
def u (s : String) : CpInfo := .utf8 (stringToUtf16 s)
/-- a pool by its gaps: so many unusable entries, then the entry; so many at the end -/
def gap : Nat → List CpInfo → List CpInfo
  | 0, r => r
  | n + 1, r => .unusable :: gap n r
def poolList (es : List (Nat × CpInfo)) (last : Nat) : List CpInfo := es.foldr (fun e r => gap e.1 (e.2 :: r)) (gap last [])
def pool (es : List (Nat × CpInfo)) (last : Nat) : Array CpInfo := ⟨poolList es last⟩
def fileOf (pool : Array CpInfo) (this : Nat) (attrs : Array Attribute := #[]) (ms : Array MethodInfo := #[]) (fl : Nat := 33) (sup : Nat := 0) (ifs : Array Nat := #[]) (fds : Array FieldInfo := #[]) : ClassFile where
  minorVersion := 0
  majorVersion := 65
  constantPool := pool
  accessFlags := fl
  thisClass := this
  superClass := sup
  interfaces := ifs
  fields := fds
  methods := ms
  attributes := attrs
def plain (name : String) (sup : Option ClassId) : Class where
  name := name
  kind := .ordinary
  loader := none
  accessFlags := 33
  super := sup
  interfaces := #[]
  cf := none
  fields := #[]
  methods := #[]
  instanceTypes := #[]
  staticTypes := #[]
  resolved := #[]
  callSites := []
  init := .initialized
  statics := none
  mirror := none

def pool0 : Array CpInfo := pool [(5, u "<init>"), (0, u "()V"), (1, .class_ 10), (1, u "java/lang/Object")] 113

def k0m0 : Method := { name := "<init>", desc := "()V", sig := { parameters := [], returnType := none }, accessFlags := 1, code := none }
/-- java/lang/Object -/
def k0 : Class := { plain "java/lang/Object" none with
  accessFlags := 33
  interfaces := #[]
  cf := some (fileOf pool0 8 #[] #[{ accessFlags := 1, nameIndex := 5, descriptorIndex := 6, attributes := #[] }] 33 0 #[] #[])
  fields := #[]
  methods := #[k0m0]
  instanceTypes := #[]
  staticTypes := #[]
  resolved := Array.replicate 124 none
  statics := none }

def pool1 : Array CpInfo := pool [(2, .class_ 4), (1, u "java/lang/Object"), (0, u "<init>"), (0, u "()V"), (0, .fieldref 8 9), (0, .class_ 10), (0, .nameAndType 11 12), (0, u "com/example/gatedb/gatedb/pgwire/PgType"), (0, u "BOOL"), (0, u "Lcom/example/gatedb/gatedb/pgwire/PgType;"), (0, .fieldref 8 14), (0, .nameAndType 15 12), (0, u "INT2"), (0, .fieldref 8 17), (0, .nameAndType 18 12), (0, u "INT4"), (0, .fieldref 8 20), (0, .nameAndType 21 12), (0, u "INT8"), (0, .fieldref 8 23), (0, .nameAndType 24 12), (0, u "TEXT"), (0, .fieldref 8 26), (0, .nameAndType 27 12), (0, u "VARCHAR"), (0, .fieldref 8 29), (0, .nameAndType 30 12), (0, u "BPCHAR"), (0, .fieldref 8 32), (0, .nameAndType 33 12), (0, u "NAME"), (0, .fieldref 8 35), (0, .nameAndType 36 12), (0, u "FLOAT4"), (0, .fieldref 8 38), (0, .nameAndType 39 12), (0, u "FLOAT8"), (0, .fieldref 8 41), (0, .nameAndType 42 12), (0, u "NUMERIC"), (0, .fieldref 8 44), (0, .nameAndType 45 12), (0, u "DATE"), (0, .fieldref 8 47), (0, .nameAndType 48 12), (0, u "TIME"), (0, .fieldref 8 50), (0, .nameAndType 51 12), (0, u "TIMESTAMP"), (0, .fieldref 8 53), (0, .nameAndType 54 12), (0, u "TIMESTAMPTZ"), (0, .integer 2147483647), (0, .methodref 57 58), (0, .class_ 59), (0, .nameAndType 60 61), (0, u "com/example/gatedb/gatedb/pgwire/PgTypeMaxLengthPinLaw"), (0, u "typeAt"), (0, u "(I)Lcom/example/gatedb/gatedb/pgwire/PgType;"), (0, .methodref 8 63), (0, .nameAndType 64 65), (0, u "maxLength"), (0, u "()I"), (5, u "law"), (0, u "(I)Z")] 2

def k1m0 : Method := { name := "<init>", desc := "()V", sig := { parameters := [], returnType := none }, accessFlags := 1, code := none }
def k1c1 : Code := { maxStack := 2, maxLocals := 1, code := method_2_code, exceptionTable := #[], attributes := #[] }
def k1m1 : Method := { name := "typeAt", desc := "(I)Lcom/example/gatedb/gatedb/pgwire/PgType;", sig := { parameters := [.int], returnType := some (.object "com/example/gatedb/gatedb/pgwire/PgType") }, accessFlags := 10, code := some k1c1 }
def k1c2 : Code := { maxStack := 2, maxLocals := 7, code := code, exceptionTable := #[], attributes := #[] }
def k1m2 : Method := { name := "law", desc := "(I)Z", sig := { parameters := [.int], returnType := some .boolean }, accessFlags := 9, code := some k1c2 }
/-- com/example/gatedb/gatedb/pgwire/PgTypeMaxLengthPinLaw -/
def k1 : Class := { plain "com/example/gatedb/gatedb/pgwire/PgTypeMaxLengthPinLaw" (some 0) with
  accessFlags := 49
  interfaces := #[]
  cf := some (fileOf pool1 57 #[] #[{ accessFlags := 1, nameIndex := 5, descriptorIndex := 6, attributes := #[] }, { accessFlags := 10, nameIndex := 60, descriptorIndex := 61, attributes := #[] }, { accessFlags := 9, nameIndex := 71, descriptorIndex := 72, attributes := #[] }] 49 2 #[] #[])
  fields := #[]
  methods := #[k1m0, k1m1, k1m2]
  instanceTypes := #[]
  staticTypes := #[]
  resolved := Array.replicate 75 none
  statics := none }

def pool2 : Array CpInfo := pool [(1, .class_ 2), (0, u "java/lang/constant/Constable"), (0, .class_ 4), (0, u "java/lang/Object")] 6

/-- java/lang/constant/Constable -/
def k2 : Class := { plain "java/lang/constant/Constable" (some 0) with
  accessFlags := 1537
  interfaces := #[]
  cf := some (fileOf pool2 1 #[] #[] 1537 3 #[] #[])
  fields := #[]
  methods := #[]
  instanceTypes := #[]
  staticTypes := #[]
  resolved := Array.replicate 11 none
  statics := none }

def pool3 : Array CpInfo := pool [(1, .class_ 2), (0, u "java/lang/Comparable"), (0, .class_ 4), (0, u "java/lang/Object")] 7

/-- java/lang/Comparable -/
def k3 : Class := { plain "java/lang/Comparable" (some 0) with
  accessFlags := 1537
  interfaces := #[]
  cf := some (fileOf pool3 1 #[] #[] 1537 3 #[] #[])
  fields := #[]
  methods := #[]
  instanceTypes := #[]
  staticTypes := #[]
  resolved := Array.replicate 12 none
  statics := none }

def pool4 : Array CpInfo := pool [(1, .class_ 2), (0, u "java/io/Serializable"), (0, .class_ 4), (0, u "java/lang/Object")] 2

/-- java/io/Serializable -/
def k4 : Class := { plain "java/io/Serializable" (some 0) with
  accessFlags := 1537
  interfaces := #[]
  cf := some (fileOf pool4 1 #[] #[] 1537 3 #[] #[])
  fields := #[]
  methods := #[]
  instanceTypes := #[]
  staticTypes := #[]
  resolved := Array.replicate 7 none
  statics := none }

def pool5 : Array CpInfo := pool [(2, .class_ 4), (1, u "java/lang/Enum"), (0, u "name"), (0, u "Ljava/lang/String;"), (0, .fieldref 2 8), (0, .nameAndType 9 10), (0, u "ordinal"), (0, u "I"), (1, .class_ 14), (1, u "java/lang/Object"), (4, u "hash"), (86, .class_ 108), (1, u "java/lang/Enum$EnumDesc"), (2, .class_ 112), (0, u "java/lang/constant/Constable"), (0, .class_ 114), (0, u "java/lang/Comparable"), (0, .class_ 116), (0, u "java/io/Serializable"), (9, u "()I")] 77

def k5c0 : Code := { maxStack := 1, maxLocals := 1, code := jdk_37_method_2_code, exceptionTable := #[], attributes := #[] }
def k5m0 : Method := { name := "ordinal", desc := "()I", sig := { parameters := [], returnType := some .int }, accessFlags := 17, code := some k5c0 }
/-- java/lang/Enum -/
def k5 : Class := { plain "java/lang/Enum" (some 0) with
  accessFlags := 1057
  interfaces := #[2, 3, 4]
  cf := some (fileOf pool5 2 #[.nestMembers #[106]] #[{ accessFlags := 17, nameIndex := 9, descriptorIndex := 126, attributes := #[] }] 1057 12 #[111, 113, 115] #[{ accessFlags := 18, nameIndex := 5, descriptorIndex := 6, attributes := #[] }, { accessFlags := 18, nameIndex := 9, descriptorIndex := 10, attributes := #[] }, { accessFlags := 2, nameIndex := 19, descriptorIndex := 10, attributes := #[] }])
  fields := #[{ name := "name", type := (.object "java/lang/String"), accessFlags := 18, slot := 0, constantValue := 0 }, { name := "ordinal", type := .int, accessFlags := 18, slot := 1, constantValue := 0 }, { name := "hash", type := .int, accessFlags := 2, slot := 2, constantValue := 0 }]
  methods := #[k5m0]
  instanceTypes := #[(.object "java/lang/String"), .int, .int]
  staticTypes := #[]
  resolved := Array.replicate 204 none
  statics := none }

def pool6 : Array CpInfo := pool [(1, .class_ 2), (0, u "com/example/gatedb/gatedb/pgwire/PgType"), (2, u "BOOL"), (0, u "Lcom/example/gatedb/gatedb/pgwire/PgType;"), (2, u "INT2"), (2, u "INT4"), (2, u "INT8"), (2, u "TEXT"), (2, u "VARCHAR"), (2, u "BPCHAR"), (2, u "NAME"), (2, u "FLOAT4"), (2, u "FLOAT8"), (2, u "NUMERIC"), (2, u "DATE"), (2, u "TIME"), (2, u "TIMESTAMP"), (2, u "TIMESTAMPTZ"), (2, u "$VALUES"), (0, u "[Lcom/example/gatedb/gatedb/pgwire/PgType;"), (6, .class_ 61), (1, u "java/lang/Enum"), (8, u "oid"), (0, u "I"), (2, u "size"), (2, u "sqlName"), (0, u "Ljava/lang/String;"), (1, .class_ 82), (1, u "com/example/gatedb/gatedb/pgwire/PgType$1"), (10, .nameAndType 95 96), (1, u "ordinal"), (0, u "()I"), (25, .methodref 1 93), (241, u "maxLength")] 24

def k6c0 : Code := { maxStack := 4, maxLocals := 1, code := prog_41_method_14_code, exceptionTable := #[], attributes := #[] }
def k6m0 : Method := { name := "maxLength", desc := "()I", sig := { parameters := [], returnType := some .int }, accessFlags := 0, code := some k6c0 }
/-- com/example/gatedb/gatedb/pgwire/PgType -/
def k6 : Class := { plain "com/example/gatedb/gatedb/pgwire/PgType" (some 5) with
  accessFlags := 16432
  interfaces := #[]
  cf := some (fileOf pool6 1 #[.nestMembers #[80]] #[{ accessFlags := 0, nameIndex := 364, descriptorIndex := 96, attributes := #[] }] 16432 59 #[] #[{ accessFlags := 16409, nameIndex := 5, descriptorIndex := 6, attributes := #[] }, { accessFlags := 16409, nameIndex := 9, descriptorIndex := 6, attributes := #[] }, { accessFlags := 16409, nameIndex := 12, descriptorIndex := 6, attributes := #[] }, { accessFlags := 16409, nameIndex := 15, descriptorIndex := 6, attributes := #[] }, { accessFlags := 16409, nameIndex := 18, descriptorIndex := 6, attributes := #[] }, { accessFlags := 16409, nameIndex := 21, descriptorIndex := 6, attributes := #[] }, { accessFlags := 16409, nameIndex := 24, descriptorIndex := 6, attributes := #[] }, { accessFlags := 16409, nameIndex := 27, descriptorIndex := 6, attributes := #[] }, { accessFlags := 16409, nameIndex := 30, descriptorIndex := 6, attributes := #[] }, { accessFlags := 16409, nameIndex := 33, descriptorIndex := 6, attributes := #[] }, { accessFlags := 16409, nameIndex := 36, descriptorIndex := 6, attributes := #[] }, { accessFlags := 16409, nameIndex := 39, descriptorIndex := 6, attributes := #[] }, { accessFlags := 16409, nameIndex := 42, descriptorIndex := 6, attributes := #[] }, { accessFlags := 16409, nameIndex := 45, descriptorIndex := 6, attributes := #[] }, { accessFlags := 16409, nameIndex := 48, descriptorIndex := 6, attributes := #[] }, { accessFlags := 18, nameIndex := 70, descriptorIndex := 71, attributes := #[] }, { accessFlags := 18, nameIndex := 74, descriptorIndex := 71, attributes := #[] }, { accessFlags := 18, nameIndex := 77, descriptorIndex := 78, attributes := #[] }, { accessFlags := 4122, nameIndex := 51, descriptorIndex := 52, attributes := #[] }])
  fields := #[{ name := "BOOL", type := (.object "com/example/gatedb/gatedb/pgwire/PgType"), accessFlags := 16409, slot := 0, constantValue := 0 }, { name := "INT2", type := (.object "com/example/gatedb/gatedb/pgwire/PgType"), accessFlags := 16409, slot := 1, constantValue := 0 }, { name := "INT4", type := (.object "com/example/gatedb/gatedb/pgwire/PgType"), accessFlags := 16409, slot := 2, constantValue := 0 }, { name := "INT8", type := (.object "com/example/gatedb/gatedb/pgwire/PgType"), accessFlags := 16409, slot := 3, constantValue := 0 }, { name := "TEXT", type := (.object "com/example/gatedb/gatedb/pgwire/PgType"), accessFlags := 16409, slot := 4, constantValue := 0 }, { name := "VARCHAR", type := (.object "com/example/gatedb/gatedb/pgwire/PgType"), accessFlags := 16409, slot := 5, constantValue := 0 }, { name := "BPCHAR", type := (.object "com/example/gatedb/gatedb/pgwire/PgType"), accessFlags := 16409, slot := 6, constantValue := 0 }, { name := "NAME", type := (.object "com/example/gatedb/gatedb/pgwire/PgType"), accessFlags := 16409, slot := 7, constantValue := 0 }, { name := "FLOAT4", type := (.object "com/example/gatedb/gatedb/pgwire/PgType"), accessFlags := 16409, slot := 8, constantValue := 0 }, { name := "FLOAT8", type := (.object "com/example/gatedb/gatedb/pgwire/PgType"), accessFlags := 16409, slot := 9, constantValue := 0 }, { name := "NUMERIC", type := (.object "com/example/gatedb/gatedb/pgwire/PgType"), accessFlags := 16409, slot := 10, constantValue := 0 }, { name := "DATE", type := (.object "com/example/gatedb/gatedb/pgwire/PgType"), accessFlags := 16409, slot := 11, constantValue := 0 }, { name := "TIME", type := (.object "com/example/gatedb/gatedb/pgwire/PgType"), accessFlags := 16409, slot := 12, constantValue := 0 }, { name := "TIMESTAMP", type := (.object "com/example/gatedb/gatedb/pgwire/PgType"), accessFlags := 16409, slot := 13, constantValue := 0 }, { name := "TIMESTAMPTZ", type := (.object "com/example/gatedb/gatedb/pgwire/PgType"), accessFlags := 16409, slot := 14, constantValue := 0 }, { name := "oid", type := .int, accessFlags := 18, slot := 3, constantValue := 0 }, { name := "size", type := .int, accessFlags := 18, slot := 4, constantValue := 0 }, { name := "sqlName", type := (.object "java/lang/String"), accessFlags := 18, slot := 5, constantValue := 0 }, { name := "$VALUES", type := (.array (.object "com/example/gatedb/gatedb/pgwire/PgType")), accessFlags := 4122, slot := 15, constantValue := 0 }]
  methods := #[k6m0]
  instanceTypes := #[(.object "java/lang/String"), .int, .int, .int, .int, (.object "java/lang/String")]
  staticTypes := #[(.object "com/example/gatedb/gatedb/pgwire/PgType"), (.object "com/example/gatedb/gatedb/pgwire/PgType"), (.object "com/example/gatedb/gatedb/pgwire/PgType"), (.object "com/example/gatedb/gatedb/pgwire/PgType"), (.object "com/example/gatedb/gatedb/pgwire/PgType"), (.object "com/example/gatedb/gatedb/pgwire/PgType"), (.object "com/example/gatedb/gatedb/pgwire/PgType"), (.object "com/example/gatedb/gatedb/pgwire/PgType"), (.object "com/example/gatedb/gatedb/pgwire/PgType"), (.object "com/example/gatedb/gatedb/pgwire/PgType"), (.object "com/example/gatedb/gatedb/pgwire/PgType"), (.object "com/example/gatedb/gatedb/pgwire/PgType"), (.object "com/example/gatedb/gatedb/pgwire/PgType"), (.object "com/example/gatedb/gatedb/pgwire/PgType"), (.object "com/example/gatedb/gatedb/pgwire/PgType"), (.array (.object "com/example/gatedb/gatedb/pgwire/PgType"))]
  resolved := Array.replicate 389 none
  statics := some 0 }

def pool7 : Array CpInfo := pool [(1, u "java/lang/Cloneable"), (0, .class_ 1), (0, u "java/lang/Object"), (0, .class_ 3)] 3

/-- java/lang/Cloneable -/
def k7 : Class := { plain "java/lang/Cloneable" (some 0) with
  accessFlags := 1537
  interfaces := #[]
  cf := some (fileOf pool7 2 #[] #[] 1537 4 #[] #[])
  fields := #[]
  methods := #[]
  instanceTypes := #[]
  staticTypes := #[]
  resolved := Array.replicate 8 none
  statics := none }

/-- the primitive byte -/
def k8 : Class := { plain "byte" none with kind := .primitive 'B', accessFlags := 0x411 }
/-- [B -/
def k9 : Class := { plain "[B" (some 0) with kind := .array 8 .byte, interfaces := #[7, 4], accessFlags := 1041 }

/-- the primitive int -/
def k10 : Class := { plain "int" none with kind := .primitive 'I', accessFlags := 0x411 }
/-- [I -/
def k11 : Class := { plain "[I" (some 0) with kind := .array 10 .int, interfaces := #[7, 4], accessFlags := 1041 }

def heap : Heap := #[{ cls := 6, slots := #[.ref 1, .ref 12, .ref 8, .ref 2, .ref 14, .ref 5, .ref 6, .ref 7, .ref 11, .ref 15, .ref 10, .ref 9, .ref 13, .ref 3, .ref 4, .null], vm := .statics 6 },
  { cls := 6, slots := #[.null, .int 0, .int 0, .int 0, .int 0, .null], vm := .none },
  { cls := 6, slots := #[.null, .int 3, .int 0, .int 0, .int 0, .null], vm := .none },
  { cls := 6, slots := #[.null, .int 13, .int 0, .int 0, .int 0, .null], vm := .none },
  { cls := 6, slots := #[.null, .int 14, .int 0, .int 0, .int 0, .null], vm := .none },
  { cls := 6, slots := #[.null, .int 5, .int 0, .int 0, .int 0, .null], vm := .none },
  { cls := 6, slots := #[.null, .int 6, .int 0, .int 0, .int 0, .null], vm := .none },
  { cls := 6, slots := #[.null, .int 7, .int 0, .int 0, .int 0, .null], vm := .none },
  { cls := 6, slots := #[.null, .int 2, .int 0, .int 0, .int 0, .null], vm := .none },
  { cls := 6, slots := #[.null, .int 11, .int 0, .int 0, .int 0, .null], vm := .none },
  { cls := 6, slots := #[.null, .int 10, .int 0, .int 0, .int 0, .null], vm := .none },
  { cls := 6, slots := #[.null, .int 8, .int 0, .int 0, .int 0, .null], vm := .none },
  { cls := 6, slots := #[.null, .int 1, .int 0, .int 0, .int 0, .null], vm := .none },
  { cls := 6, slots := #[.null, .int 12, .int 0, .int 0, .int 0, .null], vm := .none },
  { cls := 6, slots := #[.null, .int 4, .int 0, .int 0, .int 0, .null], vm := .none },
  { cls := 6, slots := #[.null, .int 9, .int 0, .int 0, .int 0, .null], vm := .none }]
def classes : Array Class := #[k0, k1, k2, k3, k4, k5, k6, k7, k8, k9, k10, k11]
def interned : List (Array UInt16 × Addr) := []
def slotsUsed : Nat := 106
def theMethod : MethodId := ⟨1, 2⟩
def args0 : Array Value := #[.int 77]
def aboutOver (below : List Frame) : State where
  vm := { classes := classes, interned := interned.toArray }
  heap := heap
  slotsUsed := slotsUsed
  threads := #[{ frames := .invoking theMethod args0 :: below }]
def below0 : List Frame := [.native { method := ⟨0, 0⟩, args := #[] }]
def about1 : State := aboutOver below0
def p0 : Program := .bare "" "" ""
def e0 : Env := launch0.env 0 0 0
theorem w_frames : about1.frames = Frame.invoking theMethod args0 :: below0 := rfl
set_option maxRecDepth 65536 in
theorem w_args : argsFit about1.vm theMethod args0 = true := by decide +kernel
set_option maxRecDepth 65536 in
theorem w_heap : heapFits about1 = true := by decide +kernel
set_option maxRecDepth 65536 in
theorem w_runnable : about1.curStatus? = some .runnable := by decide +kernel
set_option maxRecDepth 65536 in
theorem w_alone : about1.alone = true := by decide +kernel
set_option maxRecDepth 65536 in
theorem w_named : about1.methodNamed? x = some theMethod := by decide +kernel
set_option maxRecDepth 65536 in
theorem w_hears : about1.hears theMethod below0 = true := by decide +kernel
set_option maxRecDepth 65536 in
theorem w_ripe : about1.ripe theMethod args0 below0 = true := by decide +kernel
theorem w_running : about1.status = .running := rfl
set_option maxRecDepth 65536 in
theorem w_room : about1.hasRoom e0.platform room_1 = true :=
  launch0.hasRoom_least _ room_1 (by decide +kernel) (by decide +kernel) (by decide +kernel) (by decide +kernel) (by decide +kernel) (by decide +kernel)
theorem allAtoms_all (ts : List Jvm.Cond) (a : Array Jvm.Value) (st : Jvm.State) : (allAtoms ts).before a st = ts.all (fun c => c.before a st) := by
  induction ts with
  | nil => rfl
  | cons c t ih =>
    show (Jvm.Cond.and c (allAtoms t)).before a st = _
    rw [Jvm.Cond.before_and, ih, List.all_cons]
def words1 : List Jvm.Cond := Jvm.Cond.code x code maxLocals ret :: tables_1
/-- a 'code' word, met by the world's own term for the bytes: nothing is compared byte by byte -/
theorem code_word {y : MethodName} {bytes : ByteArray} {mx : Nat} {rt : Option FieldType} {a : Array Value} {s : State} {m : MethodId} {meth : Method} {c : Code} (h1 : s.methodNamed? y = some m) (h2 : s.vm.method? m = some meth) (h3 : meth.code = some c) (h4 : c.code = bytes)
    (h5 : (c.maxLocals == mx && c.exceptionTable.isEmpty && decide (c.maxStack ≤ mostOperands) && decide (meth.sig.returnType = rt) && !meth.locks && decide (parseMethodDescriptor y.desc = some meth.sig)) = true) : (Jvm.Cond.code y bytes mx rt).before a s = true := by
  simp only [Bool.and_eq_true, beq_iff_eq, Bool.not_eq_true', decide_eq_true_eq] at h5
  obtain ⟨⟨⟨⟨⟨g1, g2⟩, g3⟩, g4⟩, g5⟩, g6⟩ := h5
  simp [Cond.before, Cond.holds, Cond.value, h1, h2, h3, h4, g1, g2, g3, g4, g5, g6]
def isCode : Jvm.Cond → Bool
  | .code _ _ _ _ => true
  | _ => false
theorem all_split {L : List Jvm.Cond} {P : Jvm.Cond → Bool} (h1 : L.all (fun c => isCode c || P c) = true) (h2 : ∀ c ∈ L.filter isCode, P c = true) : L.all P = true := by
  refine List.all_eq_true.mpr fun c hc => ?_
  have h := List.all_eq_true.mp h1 c hc
  rcases Bool.eq_false_or_eq_true (isCode c) with hi | hi
  · exact h2 c (List.mem_filter.mpr ⟨hc, hi⟩)
  · simpa [hi] using h
set_option maxRecDepth 65536 in
theorem w_c0 : (Jvm.Cond.code x code maxLocals ret).before args0 about1 = true := code_word (m := ⟨1, 2⟩) (meth := k1m2) (c := k1c2) (by decide +kernel) rfl rfl rfl (by decide +kernel)
set_option maxRecDepth 65536 in
theorem w_c1 : (Jvm.Cond.code ({ cls := "com/example/gatedb/gatedb/pgwire/PgTypeMaxLengthPinLaw", name := "typeAt", desc := "(I)Lcom/example/gatedb/gatedb/pgwire/PgType;" } : Jvm.MethodName) method_2_code (1 : Nat) (Option.some (Jvm.ClassFile.FieldType.object "com/example/gatedb/gatedb/pgwire/PgType"))).before args0 about1 = true := code_word (m := ⟨1, 1⟩) (meth := k1m1) (c := k1c1) (by decide +kernel) rfl rfl rfl (by decide +kernel)
set_option maxRecDepth 65536 in
theorem w_c2 : (Jvm.Cond.code ({ cls := "com/example/gatedb/gatedb/pgwire/PgType", name := "maxLength", desc := "()I" } : Jvm.MethodName) prog_41_method_14_code (1 : Nat) (Option.some Jvm.ClassFile.FieldType.int)).before args0 about1 = true := code_word (m := ⟨6, 0⟩) (meth := k6m0) (c := k6c0) (by decide +kernel) rfl rfl rfl (by decide +kernel)
set_option maxRecDepth 65536 in
theorem w_c3 : (Jvm.Cond.code ({ cls := "java/lang/Enum", name := "ordinal", desc := "()I" } : Jvm.MethodName) jdk_37_method_2_code (1 : Nat) (Option.some Jvm.ClassFile.FieldType.int)).before args0 about1 = true := code_word (m := ⟨5, 0⟩) (meth := k5m0) (c := k5c0) (by decide +kernel) rfl rfl rfl (by decide +kernel)
def codes1 : List Jvm.Cond := [Jvm.Cond.code x code maxLocals ret, Jvm.Cond.code ({ cls := "com/example/gatedb/gatedb/pgwire/PgTypeMaxLengthPinLaw", name := "typeAt", desc := "(I)Lcom/example/gatedb/gatedb/pgwire/PgType;" } : Jvm.MethodName) method_2_code (1 : Nat) (Option.some (Jvm.ClassFile.FieldType.object "com/example/gatedb/gatedb/pgwire/PgType")), Jvm.Cond.code ({ cls := "com/example/gatedb/gatedb/pgwire/PgType", name := "maxLength", desc := "()I" } : Jvm.MethodName) prog_41_method_14_code (1 : Nat) (Option.some Jvm.ClassFile.FieldType.int), Jvm.Cond.code ({ cls := "java/lang/Enum", name := "ordinal", desc := "()I" } : Jvm.MethodName) jdk_37_method_2_code (1 : Nat) (Option.some Jvm.ClassFile.FieldType.int)]
set_option maxRecDepth 65536 in
theorem codes_eq : words1.filter isCode = codes1 := rfl
theorem w_codes : ∀ c ∈ words1.filter isCode, c.before args0 about1 = true := by
  rw [codes_eq]
  intro c hc
  simp only [codes1, List.mem_cons, List.not_mem_nil, or_false] at hc
  rcases hc with rfl | rfl | rfl | rfl
  · exact w_c0
  · exact w_c1
  · exact w_c2
  · exact w_c3
set_option maxRecDepth 65536 in
theorem w_t1 : (words1.take 24).all (fun c => isCode c || c.before args0 about1) = true := by decide +kernel
set_option maxRecDepth 65536 in
theorem w_t2 : ((words1.drop 24).take 24).all (fun c => isCode c || c.before args0 about1) = true := by decide +kernel
set_option maxRecDepth 65536 in
theorem w_t3 : ((words1.drop 24).drop 24).all (fun c => isCode c || c.before args0 about1) = true := by decide +kernel
theorem w_tables : (allAtoms (Jvm.Cond.code x code maxLocals ret :: tables_1)).before args0 about1 = true := by
  rw [allAtoms_all]
  show words1.all (fun c => c.before args0 about1) = true
  refine all_split ?_ w_codes
  rw [← List.take_append_drop 24 words1, List.all_append, w_t1, ← List.take_append_drop 24 (words1.drop 24), List.all_append, w_t2, w_t3]
  rfl
set_option maxRecDepth 65536 in
theorem w_case : (Jvm.Cond.and given_1 narrow_1).before args0 about1 = true := by decide +kernel
theorem w_applies : (headSpec (Jvm.Cond.code x code maxLocals ret :: tables_1) room_1).applies x e0.platform about1 = true :=
  (Spec.applies_iff w_frames).mpr ⟨w_running, w_runnable, w_alone, w_named, w_hears, w_ripe, w_room, w_tables⟩
theorem atStart : AtStart classFile x code maxLocals ret World_1 tables_1 room_1 Calls_1 rest_1 Pre_1 launch0 p0 e0 about1 theMethod args0 below0 :=
  ⟨lists_1, trivial, launch0.admits_env _ _ _, launch0.least_env, fairChoices_fair.cas, fairChoices_fair.clock, w_frames, w_args, w_heap, w_applies, trivial, trivial, w_case⟩
end start1
theorem witness_1 : WitnessClaimed_1 := ⟨start1.p0, start1.e0, start1.about1, start1.theMethod, start1.args0, start1.below0, start1.atStart⟩
end Jvm.Pilot.@@N@@
