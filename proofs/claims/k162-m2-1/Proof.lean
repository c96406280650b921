import JvmDerived
import JvmDerived.Pilot.@@N@@Statement
import JvmDerived.Pilot.@@N@@Code
set_option linter.unusedVariables false
set_option linter.unusedSimpArgs false
namespace Jvm.RoadKit
open Sem ClassFile Op Lib Jvm.Stand Jvm.Free Jvm.LawKit
section New
variable {p : Program} {l : Launch} {e : Env} {R : Room} {s : State} {m : MethodId} {args : Array Value} {below : List Frame} {meth : Method} {c : Code} {T : State} {locs : List Loc} {cells slots : Nat}
theorem retI (X : Stand p l e R s m args below meth c T locs cells slots) (hx : p.tables.exec = Jvm.exec) {pc : Nat} {Ls : Array Slot} {z : Int32} {rest : List Value} (hret : meth.sig.returnType = some .int) (hd : decode c.code pc = .ok (.ireturn, 1)) {fs : List Frame}
    (hl : ∀ (f : JFrame) (acts : List Action), f.method = m → f.locked = none → f.entered = [] → (doReturn e (T.setTop f) acts (some (.int z))).1 = T.setFrames fs) : Steps p.tables e below (T.setTop (mkF m pc Ls (.int z :: rest))) (T.setFrames fs) := by
  have hm' : T.vm.method? m = some meth := X.method'
  have hn : narrow .int (.int z) = .int z := rfl
  show Steps p.tables e below (T.setTop { method := m, pc := pc, locals := Ls, stack := _ :: rest, locked := none }) _
  jvm_step X.here [X.here.top, hx, hd, hm', hret, hn]
  first | (intro acts; rw [hl _ acts rfl rfl rfl]) | rw [hl _ _ rfl rfl rfl]
  exact Steps.refl _
end New
end Jvm.RoadKit
namespace Jvm.Pilot.@@N@@
open Jvm Jvm.ClassFile Sem Op Lib Jvm.Free Jvm.Stand Jvm.LawKit Jvm.RoadKit Bundle Jvm.Pilot.@@N@@.Jvm.D
theorem tk {L : List Jvm.Cond} {d : Jvm.Cond} (i : Nat) (h : L[i]? = some d) : d ∈ L := List.mem_of_getElem? h
/-! own small facts: what the case says of a pinned static's field -/
theorem own_fld {args : Array Value} {s : State} {t : Term} {C n d : String} {w : Addr} {k : Int32} (ht : t.eval args s none [] s = some (.ref w)) (h : (Cond.eq (.field t C n d) (.int k)).value args s none s [] = some true) : Fld s s.heap w C n d (.int k) := by
  obtain ⟨x, y, hx, hy, -, kin⟩ := cmp_v (Or.inl h)
  obtain rfl : Value.int k = y := Option.some.inj hy
  obtain ⟨z, rfl⟩ := kin
  have e : z = k := by simpa [Cond.value, hx, hy] using h
  subst e
  exact Fld.start ((fld_at ht).symm.trans hx)
theorem own_fldN {args : Array Value} {s : State} {t : Term} {C n d : String} {w : Addr} (ht : t.eval args s none [] s = some (.ref w)) (h : (Cond.eq (.field t C n d) .null).value args s none s [] = some true) : Fld s s.heap w C n d .null :=
  Fld.start ((fld_at ht).symm.trans (null_v h))
theorem own_nsroot {Z : State} {a0 : Array Value} {O K : String} {n : Nat} (w : (Cond.noSuperclass O).before a0 Z = true) (wk : (Cond.instantiable K n).before a0 Z = true) (hn : O ≠ K) : NS Z O K := by
  obtain ⟨c, k, h1, h2, h3, -, -⟩ := Cond.noSuperclass_spec w
  obtain ⟨t, -, g1, -⟩ := Cond.instantiable_spec wk
  have ne := ids_ne h1 g1 hn
  refine ⟨c, t, h1, g1, fun fuel => ?_⟩
  cases fuel with
  | zero => rfl
  | succ f => simp [Vm.isSubclassAux, ne, h2, h3]
theorem own_nsno {Z : State} {a0 : Array Value} {C S K : String} {n : Nat} (w : (Cond.superclass C S).before a0 Z = true) (wk : (Cond.instantiable K n).before a0 Z = true) (ns : NS Z C K) (hn : C ≠ K) : ∃ c t, Z.vm.findClass C = some c ∧ Z.vm.findClass K = some t ∧ Z.vm.assignable c t = false := by
  obtain ⟨c, t, h0, g0, n3⟩ := ns
  obtain ⟨p, k, kp, h1, h2, h3, h4, h5, -, h7⟩ := Cond.superclass_spec h0 w
  obtain ⟨t', k', g1, g2, g3, g4, -⟩ := Cond.instantiable_spec wk
  cases g0.symm.trans g1
  have ne := ids_ne h0 g0 hn
  have g5 : k'.isInterface = false := (Bool.or_eq_false_iff.mp g4).1
  refine ⟨c, t, h0, g0, ?_⟩
  show Z.vm.assignableAux (255 + 1) c t = false
  simp [Vm.assignableAux, ne, h2, g2, h5, g3, g5, Vm.isSubclass, n3]
theorem own_nar {v : Value} {C : String} (h : v.isRef = true) : narrow (.object C) v = v := by rcases ref_cases h with rfl | ⟨a, rfl⟩ <;> rfl
theorem own_fit {v : Value} {C : String} (h : v.isRef = true) : fits (.object C) v = true := by rcases ref_cases h with rfl | ⟨a, rfl⟩ <;> rfl
theorem own_refof {v : Value} (h : v.isRef = true) (n : ¬ v = .null) : ∃ a, v = .ref a := (ref_cases h).elim (fun q => absurd q n) id
theorem own_sint {args : Array Value} {s : State} {t : Term} {k : Int32} (h : (Cond.eq t (.int k)).value args s none s [] = some true) : t.eval args s none [] s = some (.int k) := by
  obtain ⟨x, y, hx, hy, -, kin⟩ := cmp_v (Or.inl h)
  obtain rfl : Value.int k = y := Option.some.inj hy
  obtain ⟨z, rfl⟩ := kin
  have e : z = k := by simpa [Cond.value, hx, hy] using h
  subst e; exact hx
theorem own_snot {args : Array Value} {s : State} {t : Term} {k z : Int32} (ht : t.eval args s none [] s = some (.int z)) (h : (Cond.not (Cond.eq t (.int k))).value args s none s [] = some true) : ¬ z = k := by
  have := not_v h
  intro e
  subst e
  simp [Cond.value, ht, Term.eval] at this
theorem own_seq {args : Array Value} {s : State} {t u : Term} {a b : Addr} (ht : t.eval args s none [] s = some (.ref a)) (hu : u.eval args s none [] s = some (.ref b)) (h : (Cond.eq t u).value args s none s [] = some true) : b = a := by
  have e : a = b := by simpa [Cond.value, ht, hu] using h
  exact e.symm
theorem own_len {args : Array Value} {s : State} {t : Term} {a : Addr} {c : Cell} {ty : FieldType} {n : Int32} (ht : t.eval args s none [] s = some (.ref a)) (A : Arr s s.heap a c ty) (h : (Cond.eq (.length t) (.int n)).value args s none s [] = some true) : c.slots.size < 2 ^ 31 ∧ c.slots.size.toInt32 = n := by
  have e0 := own_sint h
  have hfin := A.fin (Vm.Alike.refl _)
  by_cases hl : c.slots.size < 2 ^ 31
  · rw [len_f ht hfin hl] at e0
    exact ⟨hl, Value.int.inj (Option.some.inj e0)⟩
  · exfalso
    simp [Term.eval, ht, hfin, hl] at e0
theorem own_elem {args : Array Value} {s : State} {t u : Term} {a w : Addr} {c : Cell} {i : Int32} (ht : t.eval args s none [] s = some (.ref a)) (hc : s.heap[a]? = some c) (hu : u.eval args s none [] s = some (.ref w)) (h : (Cond.eq (.elem t (.int i)) u).value args s none s [] = some true) : c.slots[i.toNatClampNeg]? = some (.ref w) := by
  obtain ⟨x, y, hx, hy, k1, k2⟩ := cmp_v (Or.inl h)
  obtain rfl : Value.ref w = y := Option.some.inj (hu.symm.trans hy)
  have e := gotT (eq_R hx hu k2.2 rfl) h
  rw [e] at hx
  exact (elem_in hx ht (Term.int_eval i) hc).2
theorem own_ldcF {p : Program} {l : Launch} {e : Env} {R : Room} {s : State} {m : MethodId} {args : Array Value} {below : List Frame} {meth : Method} {c : Code} {T : State} {locs : List Loc} {cells slots : Nat}
    (X : Stand p l e R s m args below meth c T locs cells slots) (hx : p.tables.exec = Jvm.exec) {own : String} {index : Nat} {b : UInt32} (hown : s.vm.findClass own = some m.cls) (w : (Cond.constantFloat own index b).before args s = true) {g : JFrame} (hg : g.method = m) (hd : decode c.code g.pc = .ok (.ldc index, 2)) :
    ∀ target, Steps p.tables e below (T.setTop { g with pc := g.pc + 2, stack := .float b :: g.stack }) target → Steps p.tables e below (T.setTop g) target := by
  obtain ⟨k, cf, h1, h2, h3⟩ := Cond.constantFloat_spec hown w
  exact X.ldcFloat hx h1 h2 h3 hg hd
theorem own_old {Z : State} {n0 : Nat} {h : Heap} (O : Old Z n0 h) : n0 ≤ h.size := O.1 ▸ O.2.1
theorem own_rand (x m : Int32) (n : Int) (h0 : 0 ≤ m.toInt) (h1 : m.toInt < n) : 0 ≤ (x &&& m).toInt ∧ (x &&& m).toInt < n := by
  have := c_and x m h0; omega
theorem own_rrem (x y : Int32) (n : Int) (h0 : 0 ≤ x.toInt) (hy : y.toInt = n) (hn : 0 < n) : 0 ≤ (x % y).toInt ∧ (x % y).toInt < n := by
  rw [(c_irem x y n hy).1 h0]; exact ⟨Int.emod_nonneg _ (by omega), Int.emod_lt_of_pos _ hn⟩
theorem own_rshr (x q : Int32) (k : Nat) (m : Int) {n : Int} (r : 0 ≤ x.toInt ∧ x.toInt < n) (hk : q.toBitVec.toNat % 32 = k) (hm : (n - 1) / ((2 ^ k : Nat) : Int) < m) : 0 ≤ (x >>> (q &&& 31)).toInt ∧ (x >>> (q &&& 31)).toInt < m := by
  rw [c_ishr x q k hk]
  have hp : (0 : Int) < ((2 ^ k : Nat) : Int) := by exact_mod_cast Nat.two_pow_pos k
  exact ⟨Int.ediv_nonneg r.1 (Int.le_of_lt hp), Int.lt_of_le_of_lt (Int.ediv_le_ediv hp (by omega)) hm⟩
theorem own_off {e c : Int32} {n : Int} (r : 0 ≤ e.toInt ∧ e.toInt < n) (h : decide (n ≤ c.toInt ∨ c.toInt < 0) = true) : ¬ e = c := fun z => by
  subst z
  have := of_decide_eq_true h
  omega
theorem own_below {e c : Int32} {n : Int} (r : 0 ≤ e.toInt ∧ e.toInt < n) (h : n ≤ c.toInt) : e < c := by rw [Int32.lt_iff_toInt_lt]; omega
theorem own_notbelow {e c : Int32} {n : Int} (r : 0 ≤ e.toInt ∧ e.toInt < n) (h : c.toInt ≤ 0) : ¬ e < c := by rw [Int32.lt_iff_toInt_lt]; omega
theorem own_notabove {e c : Int32} {n : Int} (r : 0 ≤ e.toInt ∧ e.toInt < n) (h : n - 1 ≤ c.toInt) : ¬ c < e := by rw [Int32.lt_iff_toInt_lt]; omega
theorem own_above {e c : Int32} {n : Int} (r : 0 ≤ e.toInt ∧ e.toInt < n) (h : c.toInt < 0) : c < e := by rw [Int32.lt_iff_toInt_lt]; omega
theorem own_lt {a b : Int32} {n : Int} (h : a < b) (e : b.toInt = n) : a.toInt < n := by rw [← e]; exact Int32.lt_iff_toInt_lt.mp h
theorem own_ne {a b : Int32} {n : Int} (h : ¬ a = b) (e : b.toInt = n) : a.toInt ≠ n := fun z => h (Int32.toInt_inj.mp (z.trans e.symm))
theorem own_eq {a b : Int32} {n : Int} (e : b.toInt = n) (h : a.toInt = n) : a = b := Int32.toInt_inj.mp (h.trans e.symm)
theorem d1_0 : decode prog_65_method_5_code 0 = .ok (.aload_n 0, 1) := by decide +kernel
theorem d1_1 : decode prog_65_method_5_code 1 = .ok (.getstatic 28, 3) := by decide +kernel
theorem d1_4 : decode prog_65_method_5_code 4 = .ok (.if_acmp .eq 10, 3) := by decide +kernel
theorem d1_14 : decode prog_65_method_5_code 14 = .ok (.iconst 1, 1) := by decide +kernel
theorem d1_15 : decode prog_65_method_5_code 15 = .ok (.goto 4, 3) := by decide +kernel
theorem d1_19 : decode prog_65_method_5_code 19 = .ok (.ireturn, 1) := by decide +kernel
theorem d1_7 : decode prog_65_method_5_code 7 = .ok (.aload_n 0, 1) := by decide +kernel
theorem d1_8 : decode prog_65_method_5_code 8 = .ok (.getstatic 31, 3) := by decide +kernel
theorem d1_11 : decode prog_65_method_5_code 11 = .ok (.if_acmp .ne 7, 3) := by decide +kernel
theorem d1_18 : decode prog_65_method_5_code 18 = .ok (.iconst 0, 1) := by decide +kernel
abbrev Y0 : MethodName := (⟨"com/example/discharge/discharge/frontend/Expression$BinaryOperator", "isShift", "()Z"⟩ : MethodName)
theorem pd_0 : parseMethodDescriptor "()Z" = some ⟨[], some .boolean⟩ := by decide +kernel
theorem d2_0 : decode prog_65_method_4_code 0 = .ok (.aload_n 0, 1) := by decide +kernel
theorem d2_1 : decode prog_65_method_4_code 1 = .ok (.getfield 75, 3) := by decide +kernel
theorem d2_4 : decode prog_65_method_4_code 4 = .ok (.ireturn, 1) := by decide +kernel
abbrev Y1 : MethodName := (⟨"com/example/discharge/discharge/frontend/Expression$BinaryOperator", "isComparison", "()Z"⟩ : MethodName)

def StF (Z : State) (w_1 : Addr) (w_2 : Addr) (w_3 : Addr) (w_4 : Addr) (w_5 : Addr) (w_6 : Addr) (w_7 : Addr) (w_8 : Addr) (w_9 : Addr) (w_10 : Addr) (w_11 : Addr) (w_12 : Addr) (w_13 : Addr) (w_14 : Addr) (w_15 : Addr) (w_16 : Addr) : Prop :=
  Sta Z Z.heap "com/example/discharge/discharge/frontend/Expression$BinaryOperator" "ADD" "Lcom/example/discharge/discharge/frontend/Expression$BinaryOperator;" (.ref w_1) ∧
  Exa Z Z.heap w_1 "com/example/discharge/discharge/frontend/Expression$BinaryOperator" ∧
  Sta Z Z.heap "com/example/discharge/discharge/frontend/Expression$BinaryOperator" "SUBTRACT" "Lcom/example/discharge/discharge/frontend/Expression$BinaryOperator;" (.ref w_2) ∧
  Exa Z Z.heap w_2 "com/example/discharge/discharge/frontend/Expression$BinaryOperator" ∧
  Sta Z Z.heap "com/example/discharge/discharge/frontend/Expression$BinaryOperator" "MULTIPLY" "Lcom/example/discharge/discharge/frontend/Expression$BinaryOperator;" (.ref w_3) ∧
  Exa Z Z.heap w_3 "com/example/discharge/discharge/frontend/Expression$BinaryOperator" ∧
  Sta Z Z.heap "com/example/discharge/discharge/frontend/Expression$BinaryOperator" "DIVIDE" "Lcom/example/discharge/discharge/frontend/Expression$BinaryOperator;" (.ref w_4) ∧
  Exa Z Z.heap w_4 "com/example/discharge/discharge/frontend/Expression$BinaryOperator" ∧
  Sta Z Z.heap "com/example/discharge/discharge/frontend/Expression$BinaryOperator" "REMAINDER" "Lcom/example/discharge/discharge/frontend/Expression$BinaryOperator;" (.ref w_5) ∧
  Exa Z Z.heap w_5 "com/example/discharge/discharge/frontend/Expression$BinaryOperator" ∧
  Sta Z Z.heap "com/example/discharge/discharge/frontend/Expression$BinaryOperator" "BITWISE_AND" "Lcom/example/discharge/discharge/frontend/Expression$BinaryOperator;" (.ref w_6) ∧
  Exa Z Z.heap w_6 "com/example/discharge/discharge/frontend/Expression$BinaryOperator" ∧
  Sta Z Z.heap "com/example/discharge/discharge/frontend/Expression$BinaryOperator" "BITWISE_OR" "Lcom/example/discharge/discharge/frontend/Expression$BinaryOperator;" (.ref w_7) ∧
  Exa Z Z.heap w_7 "com/example/discharge/discharge/frontend/Expression$BinaryOperator" ∧
  Sta Z Z.heap "com/example/discharge/discharge/frontend/Expression$BinaryOperator" "BITWISE_XOR" "Lcom/example/discharge/discharge/frontend/Expression$BinaryOperator;" (.ref w_8) ∧
  Exa Z Z.heap w_8 "com/example/discharge/discharge/frontend/Expression$BinaryOperator" ∧
  Sta Z Z.heap "com/example/discharge/discharge/frontend/Expression$BinaryOperator" "SHIFT_LEFT" "Lcom/example/discharge/discharge/frontend/Expression$BinaryOperator;" (.ref w_9) ∧
  Exa Z Z.heap w_9 "com/example/discharge/discharge/frontend/Expression$BinaryOperator" ∧
  Sta Z Z.heap "com/example/discharge/discharge/frontend/Expression$BinaryOperator" "SHIFT_RIGHT" "Lcom/example/discharge/discharge/frontend/Expression$BinaryOperator;" (.ref w_10) ∧
  Exa Z Z.heap w_10 "com/example/discharge/discharge/frontend/Expression$BinaryOperator" ∧
  Sta Z Z.heap "com/example/discharge/discharge/frontend/Expression$BinaryOperator" "LESS" "Lcom/example/discharge/discharge/frontend/Expression$BinaryOperator;" (.ref w_11) ∧
  Exa Z Z.heap w_11 "com/example/discharge/discharge/frontend/Expression$BinaryOperator" ∧
  Sta Z Z.heap "com/example/discharge/discharge/frontend/Expression$BinaryOperator" "LESS_OR_EQUAL" "Lcom/example/discharge/discharge/frontend/Expression$BinaryOperator;" (.ref w_12) ∧
  Exa Z Z.heap w_12 "com/example/discharge/discharge/frontend/Expression$BinaryOperator" ∧
  Sta Z Z.heap "com/example/discharge/discharge/frontend/Expression$BinaryOperator" "GREATER" "Lcom/example/discharge/discharge/frontend/Expression$BinaryOperator;" (.ref w_13) ∧
  Exa Z Z.heap w_13 "com/example/discharge/discharge/frontend/Expression$BinaryOperator" ∧
  Sta Z Z.heap "com/example/discharge/discharge/frontend/Expression$BinaryOperator" "GREATER_OR_EQUAL" "Lcom/example/discharge/discharge/frontend/Expression$BinaryOperator;" (.ref w_14) ∧
  Exa Z Z.heap w_14 "com/example/discharge/discharge/frontend/Expression$BinaryOperator" ∧
  Sta Z Z.heap "com/example/discharge/discharge/frontend/Expression$BinaryOperator" "EQUAL" "Lcom/example/discharge/discharge/frontend/Expression$BinaryOperator;" (.ref w_15) ∧
  Exa Z Z.heap w_15 "com/example/discharge/discharge/frontend/Expression$BinaryOperator" ∧
  Sta Z Z.heap "com/example/discharge/discharge/frontend/Expression$BinaryOperator" "NOT_EQUAL" "Lcom/example/discharge/discharge/frontend/Expression$BinaryOperator;" (.ref w_16) ∧
  Exa Z Z.heap w_16 "com/example/discharge/discharge/frontend/Expression$BinaryOperator" ∧
  Fld Z Z.heap w_1 "java/lang/Enum" "ordinal" "I" (.int (0 : Int32)) ∧
  Fld Z Z.heap w_9 "java/lang/Enum" "ordinal" "I" (.int (8 : Int32)) ∧
  Fld Z Z.heap w_10 "java/lang/Enum" "ordinal" "I" (.int (9 : Int32)) ∧
  Fld Z Z.heap w_4 "java/lang/Enum" "ordinal" "I" (.int (3 : Int32)) ∧
  Fld Z Z.heap w_15 "java/lang/Enum" "ordinal" "I" (.int (14 : Int32)) ∧
  Fld Z Z.heap w_16 "java/lang/Enum" "ordinal" "I" (.int (15 : Int32)) ∧
  Fld Z Z.heap w_11 "java/lang/Enum" "ordinal" "I" (.int (10 : Int32)) ∧
  Fld Z Z.heap w_8 "java/lang/Enum" "ordinal" "I" (.int (7 : Int32)) ∧
  Fld Z Z.heap w_3 "java/lang/Enum" "ordinal" "I" (.int (2 : Int32)) ∧
  Fld Z Z.heap w_12 "java/lang/Enum" "ordinal" "I" (.int (11 : Int32)) ∧
  Fld Z Z.heap w_9 "com/example/discharge/discharge/frontend/Expression$BinaryOperator" "comparison" "Z" (.int (0 : Int32)) ∧
  Fld Z Z.heap w_2 "java/lang/Enum" "ordinal" "I" (.int (1 : Int32)) ∧
  Fld Z Z.heap w_5 "java/lang/Enum" "ordinal" "I" (.int (4 : Int32)) ∧
  Fld Z Z.heap w_13 "java/lang/Enum" "ordinal" "I" (.int (12 : Int32)) ∧
  Fld Z Z.heap w_14 "java/lang/Enum" "ordinal" "I" (.int (13 : Int32)) ∧
  Fld Z Z.heap w_7 "java/lang/Enum" "ordinal" "I" (.int (6 : Int32)) ∧
  Fld Z Z.heap w_10 "com/example/discharge/discharge/frontend/Expression$BinaryOperator" "comparison" "Z" (.int (0 : Int32)) ∧
  Fld Z Z.heap w_6 "java/lang/Enum" "ordinal" "I" (.int (5 : Int32)) ∧
  Fld Z Z.heap w_1 "com/example/discharge/discharge/frontend/Expression$BinaryOperator" "comparison" "Z" (.int (0 : Int32)) ∧
  Fld Z Z.heap w_2 "com/example/discharge/discharge/frontend/Expression$BinaryOperator" "comparison" "Z" (.int (0 : Int32)) ∧
  Fld Z Z.heap w_3 "com/example/discharge/discharge/frontend/Expression$BinaryOperator" "comparison" "Z" (.int (0 : Int32)) ∧
  Fld Z Z.heap w_4 "com/example/discharge/discharge/frontend/Expression$BinaryOperator" "comparison" "Z" (.int (0 : Int32)) ∧
  Fld Z Z.heap w_5 "com/example/discharge/discharge/frontend/Expression$BinaryOperator" "comparison" "Z" (.int (0 : Int32)) ∧
  Fld Z Z.heap w_6 "com/example/discharge/discharge/frontend/Expression$BinaryOperator" "comparison" "Z" (.int (0 : Int32)) ∧
  Fld Z Z.heap w_7 "com/example/discharge/discharge/frontend/Expression$BinaryOperator" "comparison" "Z" (.int (0 : Int32)) ∧
  Fld Z Z.heap w_8 "com/example/discharge/discharge/frontend/Expression$BinaryOperator" "comparison" "Z" (.int (0 : Int32)) ∧
  Fld Z Z.heap w_11 "com/example/discharge/discharge/frontend/Expression$BinaryOperator" "comparison" "Z" (.int (1 : Int32)) ∧
  Fld Z Z.heap w_12 "com/example/discharge/discharge/frontend/Expression$BinaryOperator" "comparison" "Z" (.int (1 : Int32)) ∧
  Fld Z Z.heap w_13 "com/example/discharge/discharge/frontend/Expression$BinaryOperator" "comparison" "Z" (.int (1 : Int32)) ∧
  Fld Z Z.heap w_14 "com/example/discharge/discharge/frontend/Expression$BinaryOperator" "comparison" "Z" (.int (1 : Int32)) ∧
  Fld Z Z.heap w_15 "com/example/discharge/discharge/frontend/Expression$BinaryOperator" "comparison" "Z" (.int (1 : Int32)) ∧
  Fld Z Z.heap w_16 "com/example/discharge/discharge/frontend/Expression$BinaryOperator" "comparison" "Z" (.int (1 : Int32))
theorem pn_1 : plainName "com/example/discharge/discharge/frontend/Expression$BinaryOperator" = true := by first | (simp [plainName, overriddenIn]; done) | decide +kernel
theorem ef_1 (m : MethodId) (r0 : Addr) : entryFrame m #[(.ref r0)] 1 = mkF m 0 #[.val (.ref r0)] [] := by first | (simp [entryFrame, mkF, argsToLocals, Value.category]; done) | rfl
def sp1 (w_9 : Addr) (w_10 : Addr) (r0 : Addr) : Int32 := (if r0 = w_9 then (1 : Int32) else (if r0 = w_10 then (1 : Int32) else (0 : Int32)))
def Q1 (Z : State) (w_1 : Addr) (w_2 : Addr) (w_3 : Addr) (w_4 : Addr) (w_5 : Addr) (w_6 : Addr) (w_7 : Addr) (w_8 : Addr) (w_9 : Addr) (w_10 : Addr) (w_11 : Addr) (w_12 : Addr) (w_13 : Addr) (w_14 : Addr) (w_15 : Addr) (w_16 : Addr) (r0 : Addr) (h0 : Heap) (n0 : Nat) (v : Option Value) (h : Heap) (L : List Loc) : Prop := v = some (.int (sp1 w_9 w_10 r0)) ∧ Fr n0 L ∧ h = h0
set_option maxRecDepth 65536 in
set_option maxHeartbeats 40000000 in
theorem rm1 (l : Launch) (Z : State) (a0 : Array Value) (hw : ∀ d ∈ tables_1, d.before a0 Z = true) (ws : List Jvm.Cond) (w_1 : Addr) (w_2 : Addr) (w_3 : Addr) (w_4 : Addr) (w_5 : Addr) (w_6 : Addr) (w_7 : Addr) (w_8 : Addr) (w_9 : Addr) (w_10 : Addr) (w_11 : Addr) (w_12 : Addr) (w_13 : Addr) (w_14 : Addr) (w_15 : Addr) (w_16 : Addr) (hS : StF Z w_1 w_2 w_3 w_4 w_5 w_6 w_7 w_8 w_9 w_10 w_11 w_12 w_13 w_14 w_15 w_16) (r0 : Addr) (h0 : Heap) (n0 : Nat) (O0 : Old Z n0 h0) :
    MetFree l Y0 (head1 (Jvm.Cond.code Y0 prog_65_method_5_code 1 (some .boolean) :: ws) ({ frames := 0, cells := 0, slots := 0, locals := 0 } : Room)) (fun a U => a = #[(.ref r0)] ∧ Z.Warmed39 U.vm ∧ U.heap = h0) (fun _ _ _ _ _ => True) (fun _ U o U' => ∃ v L, o = .returned v ∧ Q1 Z w_1 w_2 w_3 w_4 w_5 w_6 w_7 w_8 w_9 w_10 w_11 w_12 w_13 w_14 w_15 w_16 r0 h0 n0 v U'.heap L ∧ FrameEnd U o U' L ({ frames := 0, cells := 0, slots := 0, locals := 0 } : Room).cells ({ frames := 0, cells := 0, slots := 0, locals := 0 } : Room).slots) := by
  refine MetFree.of_bodySF (plainFor_of_name pn_1) hisR ?_
  intro p e s m args below meth c s₁ Bd hml0 hP hK
  obtain ⟨rfl, hZ, hh⟩ := hP
  have hx := Bd.exec
  have hby := Bd.bytes
  have hml : c.maxLocals = 1 := hml0
  have hown : s.vm.findClass "com/example/discharge/discharge/frontend/Expression$BinaryOperator" = some m.cls := findClass_of_methodNamed Bd.named
  have hnm := (name_of_methodNamed Bd.named Bd.method).1
  have X0 : Stand p l e ({ frames := 0, cells := 0, slots := 0, locals := 0 } : Room) s m #[(.ref r0)] below meth c s₁ [] 0 0 := Stand.of_body Bd
  have e0 : s₁.heap = h0 := by rw [← hh, Bd.state]; rfl
  have N0 := Fr.nil n0
  have hS0 := hS
  obtain ⟨S_1, E_1, S_2, E_2, S_3, E_3, S_4, E_4, S_5, E_5, S_6, E_6, S_7, E_7, S_8, E_8, S_9, E_9, S_10, E_10, S_11, E_11, S_12, E_12, S_13, E_13, S_14, E_14, S_15, E_15, S_16, E_16, F_1_ordinal, F_9_ordinal, F_10_ordinal, F_4_ordinal, F_15_ordinal, F_16_ordinal, F_11_ordinal, F_8_ordinal, F_3_ordinal, F_12_ordinal, F_9_comparison, F_2_ordinal, F_5_ordinal, F_13_ordinal, F_14_ordinal, F_7_ordinal, F_10_comparison, F_6_ordinal, F_1_comparison, F_2_comparison, F_3_comparison, F_4_comparison, F_5_comparison, F_6_comparison, F_7_comparison, F_8_comparison, F_11_comparison, F_12_comparison, F_13_comparison, F_14_comparison, F_15_comparison, F_16_comparison⟩ := hS
  have pre0 : ∀ t, Steps p.tables e below (s₁.setTop (mkF m 0 #[.val (.ref r0)] [])) t → Steps p.tables e below (s₁.setTop (entryFrame m #[(.ref r0)] 1)) t := fun t k => castTop (ef_1 m r0) k
  obtain ⟨T147, X147, e147, st147⟩ := getS2 X0 hx hZ hown (host := "") (Or.inl (hw _ (tk 41 rfl))) Via.refl e0 (S_9.ext O0.2) (g := (mkF m 1 #[.val (.ref r0)] [(.ref r0)])) rfl (hb hby d1_1)
  have pre148 : ∀ t, Steps p.tables e below (T147.setTop (mkF m 4 #[.val (.ref r0)] [(.ref w_9), (.ref r0)])) t → Steps p.tables e below (s₁.setTop (entryFrame m #[(.ref r0)] 1)) t := fun t kt => by
    refine pre0 t ?_
    show Steps p.tables e below (s₁.setTop (mkF m 0 #[.val (.ref r0)] [])) _
    refine XS.aloadN X0.here hx rfl (hb hby d1_0) rfl rfl ?_
    show Steps p.tables e below (s₁.setTop (mkF m 1 #[.val (.ref r0)] [(.ref r0)])) _
    refine st147 _ ?_
    show Steps p.tables e below (T147.setTop (mkF m 4 #[.val (.ref r0)] [(.ref w_9), (.ref r0)])) _
    exact kt
  by_cases hc149 : r0 = w_9
  · obtain ⟨fs, hr, hrun, hended, hW, hsame⟩ := X147.leave (v := some (.int (1 : Int32))) (fun h => by rw [Bd.returns] at h; cases h)
    refine ⟨_, _, pre148 _ ?_, hrun, hended, _, _, rfl, ?_, ⟨_, rfl⟩, hW, hsame.mono (by decide) (by decide)⟩
    · show Steps p.tables e below (T147.setTop (mkF m 4 #[.val (.ref r0)] [(.ref w_9), (.ref r0)])) _
      refine Jvm.RoadKit.acmp (g := (mkF m 4 #[.val (.ref r0)] [(.ref w_9), (.ref r0)])) X147 hx rfl rfl rfl (pc0 := 4) (pc' := 14) (same := true) rfl (hb hby d1_4) rfl (decide_eq_true (congrArg Value.ref hc149)) (by decide) (by decide) ?_
      show Steps p.tables e below (T147.setTop (mkF m 14 #[.val (.ref r0)] [])) _
      refine XS.iconst X147.here hx rfl (hb hby d1_14) ?_
      show Steps p.tables e below (T147.setTop (mkF m 15 #[.val (.ref r0)] [(.int (1 : Int32))])) _
      refine XS.goto X147.here hx rfl (pc0 := 15) (pc' := 19) rfl (hb hby d1_15) (by decide) (by decide) ?_
      show Steps p.tables e below (T147.setTop (mkF m 19 #[.val (.ref r0)] [(.int (1 : Int32))])) _
      exact retN X147 hx (t := .boolean) Bd.returns (by simp) (hb hby d1_19) hr
    · show Q1 Z w_1 w_2 w_3 w_4 w_5 w_6 w_7 w_8 w_9 w_10 w_11 w_12 w_13 w_14 w_15 w_16 r0 h0 n0 _ T147.heap _
      rw [e147]
      exact ⟨by unfold sp1; rw [if_pos hc149], N0, rfl⟩
  · obtain ⟨T150, X150, e150, st150⟩ := getS2 X147 hx hZ hown (host := "") (Or.inl (hw _ (tk 42 rfl))) Via.refl e147 (S_10.ext O0.2) (g := (mkF m 8 #[.val (.ref r0)] [(.ref r0)])) rfl (hb hby d1_8)
    have pre151 : ∀ t, Steps p.tables e below (T150.setTop (mkF m 11 #[.val (.ref r0)] [(.ref w_10), (.ref r0)])) t → Steps p.tables e below (s₁.setTop (entryFrame m #[(.ref r0)] 1)) t := fun t kt => by
      refine pre148 t ?_
      show Steps p.tables e below (T147.setTop (mkF m 4 #[.val (.ref r0)] [(.ref w_9), (.ref r0)])) _
      refine Jvm.RoadKit.acmp (g := (mkF m 4 #[.val (.ref r0)] [(.ref w_9), (.ref r0)])) X147 hx rfl rfl rfl (pc0 := 4) (pc' := 7) (same := false) rfl (hb hby d1_4) rfl (decide_eq_false fun q => hc149 (Value.ref.inj q)) (by decide) (by decide) ?_
      show Steps p.tables e below (T147.setTop (mkF m 7 #[.val (.ref r0)] [])) _
      refine XS.aloadN X147.here hx rfl (hb hby d1_7) rfl rfl ?_
      show Steps p.tables e below (T147.setTop (mkF m 8 #[.val (.ref r0)] [(.ref r0)])) _
      refine st150 _ ?_
      show Steps p.tables e below (T150.setTop (mkF m 11 #[.val (.ref r0)] [(.ref w_10), (.ref r0)])) _
      exact kt
    by_cases hc152 : r0 = w_10
    · obtain ⟨fs, hr, hrun, hended, hW, hsame⟩ := X150.leave (v := some (.int (1 : Int32))) (fun h => by rw [Bd.returns] at h; cases h)
      refine ⟨_, _, pre151 _ ?_, hrun, hended, _, _, rfl, ?_, ⟨_, rfl⟩, hW, hsame.mono (by decide) (by decide)⟩
      · show Steps p.tables e below (T150.setTop (mkF m 11 #[.val (.ref r0)] [(.ref w_10), (.ref r0)])) _
        refine Jvm.RoadKit.acmp (g := (mkF m 11 #[.val (.ref r0)] [(.ref w_10), (.ref r0)])) X150 hx rfl rfl rfl (pc0 := 11) (pc' := 14) (same := true) rfl (hb hby d1_11) rfl (decide_eq_true (congrArg Value.ref hc152)) (by decide) (by decide) ?_
        show Steps p.tables e below (T150.setTop (mkF m 14 #[.val (.ref r0)] [])) _
        refine XS.iconst X150.here hx rfl (hb hby d1_14) ?_
        show Steps p.tables e below (T150.setTop (mkF m 15 #[.val (.ref r0)] [(.int (1 : Int32))])) _
        refine XS.goto X150.here hx rfl (pc0 := 15) (pc' := 19) rfl (hb hby d1_15) (by decide) (by decide) ?_
        show Steps p.tables e below (T150.setTop (mkF m 19 #[.val (.ref r0)] [(.int (1 : Int32))])) _
        exact retN X150 hx (t := .boolean) Bd.returns (by simp) (hb hby d1_19) hr
      · show Q1 Z w_1 w_2 w_3 w_4 w_5 w_6 w_7 w_8 w_9 w_10 w_11 w_12 w_13 w_14 w_15 w_16 r0 h0 n0 _ T150.heap _
        rw [e150]
        exact ⟨by unfold sp1; rw [if_neg hc149, if_pos hc152], N0, rfl⟩
    · obtain ⟨fs, hr, hrun, hended, hW, hsame⟩ := X150.leave (v := some (.int (0 : Int32))) (fun h => by rw [Bd.returns] at h; cases h)
      refine ⟨_, _, pre151 _ ?_, hrun, hended, _, _, rfl, ?_, ⟨_, rfl⟩, hW, hsame.mono (by decide) (by decide)⟩
      · show Steps p.tables e below (T150.setTop (mkF m 11 #[.val (.ref r0)] [(.ref w_10), (.ref r0)])) _
        refine Jvm.RoadKit.acmp (g := (mkF m 11 #[.val (.ref r0)] [(.ref w_10), (.ref r0)])) X150 hx rfl rfl rfl (pc0 := 11) (pc' := 18) (same := false) rfl (hb hby d1_11) rfl (decide_eq_false fun q => hc152 (Value.ref.inj q)) (by decide) (by decide) ?_
        show Steps p.tables e below (T150.setTop (mkF m 18 #[.val (.ref r0)] [])) _
        refine XS.iconst X150.here hx rfl (hb hby d1_18) ?_
        show Steps p.tables e below (T150.setTop (mkF m 19 #[.val (.ref r0)] [(.int (0 : Int32))])) _
        exact retN X150 hx (t := .boolean) Bd.returns (by simp) (hb hby d1_19) hr
      · show Q1 Z w_1 w_2 w_3 w_4 w_5 w_6 w_7 w_8 w_9 w_10 w_11 w_12 w_13 w_14 w_15 w_16 r0 h0 n0 _ T150.heap _
        rw [e150]
        exact ⟨by unfold sp1; rw [if_neg hc149, if_neg hc152], N0, rfl⟩
theorem pn_2 : plainName "com/example/discharge/discharge/frontend/Expression$BinaryOperator" = true := by first | (simp [plainName, overriddenIn]; done) | decide +kernel
theorem ef_2 (m : MethodId) (r0 : Addr) : entryFrame m #[(.ref r0)] 1 = mkF m 0 #[.val (.ref r0)] [] := by first | (simp [entryFrame, mkF, argsToLocals, Value.category]; done) | rfl
def sp2 (f_comparison_r0 : Int32) : Int32 := (nar .boolean f_comparison_r0)
def Q2 (Z : State) (w_1 : Addr) (w_2 : Addr) (w_3 : Addr) (w_4 : Addr) (w_5 : Addr) (w_6 : Addr) (w_7 : Addr) (w_8 : Addr) (w_9 : Addr) (w_10 : Addr) (w_11 : Addr) (w_12 : Addr) (w_13 : Addr) (w_14 : Addr) (w_15 : Addr) (w_16 : Addr) (r0 : Addr) (f_comparison_r0 : Int32) (h0 : Heap) (n0 : Nat) (v : Option Value) (h : Heap) (L : List Loc) : Prop := v = some (.int (sp2 f_comparison_r0)) ∧ Fr n0 L ∧ h = h0
set_option maxRecDepth 65536 in
set_option maxHeartbeats 40000000 in
theorem rm2 (l : Launch) (Z : State) (a0 : Array Value) (hw : ∀ d ∈ tables_1, d.before a0 Z = true) (ws : List Jvm.Cond) (w_1 : Addr) (w_2 : Addr) (w_3 : Addr) (w_4 : Addr) (w_5 : Addr) (w_6 : Addr) (w_7 : Addr) (w_8 : Addr) (w_9 : Addr) (w_10 : Addr) (w_11 : Addr) (w_12 : Addr) (w_13 : Addr) (w_14 : Addr) (w_15 : Addr) (w_16 : Addr) (hS : StF Z w_1 w_2 w_3 w_4 w_5 w_6 w_7 w_8 w_9 w_10 w_11 w_12 w_13 w_14 w_15 w_16) (r0 : Addr) (f_comparison_r0 : Int32) (h0 : Heap) (n0 : Nat) (O0 : Old Z n0 h0) (F_comparison_r0 : Fld Z h0 r0 "com/example/discharge/discharge/frontend/Expression$BinaryOperator" "comparison" "Z" (.int f_comparison_r0)) :
    MetFree l Y1 (head1 (Jvm.Cond.code Y1 prog_65_method_4_code 1 (some .boolean) :: ws) ({ frames := 0, cells := 0, slots := 0, locals := 0 } : Room)) (fun a U => a = #[(.ref r0)] ∧ Z.Warmed39 U.vm ∧ U.heap = h0) (fun _ _ _ _ _ => True) (fun _ U o U' => ∃ v L, o = .returned v ∧ Q2 Z w_1 w_2 w_3 w_4 w_5 w_6 w_7 w_8 w_9 w_10 w_11 w_12 w_13 w_14 w_15 w_16 r0 f_comparison_r0 h0 n0 v U'.heap L ∧ FrameEnd U o U' L ({ frames := 0, cells := 0, slots := 0, locals := 0 } : Room).cells ({ frames := 0, cells := 0, slots := 0, locals := 0 } : Room).slots) := by
  refine MetFree.of_bodySF (plainFor_of_name pn_2) hisR ?_
  intro p e s m args below meth c s₁ Bd hml0 hP hK
  obtain ⟨rfl, hZ, hh⟩ := hP
  have hx := Bd.exec
  have hby := Bd.bytes
  have hml : c.maxLocals = 1 := hml0
  have hown : s.vm.findClass "com/example/discharge/discharge/frontend/Expression$BinaryOperator" = some m.cls := findClass_of_methodNamed Bd.named
  have hnm := (name_of_methodNamed Bd.named Bd.method).1
  have X0 : Stand p l e ({ frames := 0, cells := 0, slots := 0, locals := 0 } : Room) s m #[(.ref r0)] below meth c s₁ [] 0 0 := Stand.of_body Bd
  have e0 : s₁.heap = h0 := by rw [← hh, Bd.state]; rfl
  have N0 := Fr.nil n0
  have hS0 := hS
  obtain ⟨S_1, E_1, S_2, E_2, S_3, E_3, S_4, E_4, S_5, E_5, S_6, E_6, S_7, E_7, S_8, E_8, S_9, E_9, S_10, E_10, S_11, E_11, S_12, E_12, S_13, E_13, S_14, E_14, S_15, E_15, S_16, E_16, F_1_ordinal, F_9_ordinal, F_10_ordinal, F_4_ordinal, F_15_ordinal, F_16_ordinal, F_11_ordinal, F_8_ordinal, F_3_ordinal, F_12_ordinal, F_9_comparison, F_2_ordinal, F_5_ordinal, F_13_ordinal, F_14_ordinal, F_7_ordinal, F_10_comparison, F_6_ordinal, F_1_comparison, F_2_comparison, F_3_comparison, F_4_comparison, F_5_comparison, F_6_comparison, F_7_comparison, F_8_comparison, F_11_comparison, F_12_comparison, F_13_comparison, F_14_comparison, F_15_comparison, F_16_comparison⟩ := hS
  have pre0 : ∀ t, Steps p.tables e below (s₁.setTop (mkF m 0 #[.val (.ref r0)] [])) t → Steps p.tables e below (s₁.setTop (entryFrame m #[(.ref r0)] 1)) t := fun t k => castTop (ef_2 m r0) k
  obtain ⟨T178, X178, e178, st178⟩ := getF X0 hx hZ hown (host := "") (Or.inl (hw _ (tk 48 rfl))) Via.refl e0 F_comparison_r0 (g := (mkF m 1 #[.val (.ref r0)] [(.ref r0)])) rfl rfl (hb hby d2_1)
  obtain ⟨fs, hr, hrun, hended, hW, hsame⟩ := X178.leave (v := some (.int (nar .boolean f_comparison_r0))) (fun h => by rw [Bd.returns] at h; cases h)
  refine ⟨_, _, pre0 _ ?_, hrun, hended, _, _, rfl, ?_, ⟨_, rfl⟩, hW, hsame.mono (by decide) (by decide)⟩
  · show Steps p.tables e below (s₁.setTop (mkF m 0 #[.val (.ref r0)] [])) _
    refine XS.aloadN X0.here hx rfl (hb hby d2_0) rfl rfl ?_
    show Steps p.tables e below (s₁.setTop (mkF m 1 #[.val (.ref r0)] [(.ref r0)])) _
    refine st178 _ ?_
    show Steps p.tables e below (T178.setTop (mkF m 4 #[.val (.ref r0)] [(.int f_comparison_r0)])) _
    exact retN X178 hx (t := .boolean) Bd.returns (by simp) (hb hby d2_4) hr
  · show Q2 Z w_1 w_2 w_3 w_4 w_5 w_6 w_7 w_8 w_9 w_10 w_11 w_12 w_13 w_14 w_15 w_16 r0 f_comparison_r0 h0 n0 _ T178.heap _
    rw [e178]
    exact ⟨by unfold sp2; rfl, N0, rfl⟩
theorem pn_0 : plainName "com/example/discharge/discharge/frontend/BinaryOperatorIsShiftPinLaw" = true := by first | (simp [plainName, overriddenIn]; done) | decide +kernel
theorem ef_0 (m : MethodId) (p0 : Int32) : entryFrame m #[(.int p0)] maxLocals = mkF m 0 #[.val (.int p0), .unset, .unset, .unset, .unset, .unset] [] := by first | (simp [entryFrame, mkF, argsToLocals, Value.category, maxLocals]; done) | rfl
def sp0 (p0 : Int32) : Int32 := (if (p0 &&& (15 : Int32)) = (0 : Int32) then (1 : Int32) else (if (p0 &&& (15 : Int32)) = (1 : Int32) then (1 : Int32) else (if (p0 &&& (15 : Int32)) = (2 : Int32) then (1 : Int32) else (if (p0 &&& (15 : Int32)) = (3 : Int32) then (1 : Int32) else (if (p0 &&& (15 : Int32)) = (4 : Int32) then (1 : Int32) else (if (p0 &&& (15 : Int32)) = (5 : Int32) then (1 : Int32) else (if (p0 &&& (15 : Int32)) = (6 : Int32) then (1 : Int32) else (if (p0 &&& (15 : Int32)) = (7 : Int32) then (1 : Int32) else (if (p0 &&& (15 : Int32)) = (8 : Int32) then (1 : Int32) else (if (p0 &&& (15 : Int32)) = (9 : Int32) then (1 : Int32) else (if (p0 &&& (15 : Int32)) = (10 : Int32) then (1 : Int32) else (if (p0 &&& (15 : Int32)) = (11 : Int32) then (1 : Int32) else (if (p0 &&& (15 : Int32)) = (12 : Int32) then (1 : Int32) else (if (p0 &&& (15 : Int32)) = (13 : Int32) then (1 : Int32) else (if (p0 &&& (15 : Int32)) = (14 : Int32) then (1 : Int32) else (1 : Int32))))))))))))))))
def Q0 (Z : State) (w_1 : Addr) (w_2 : Addr) (w_3 : Addr) (w_4 : Addr) (w_5 : Addr) (w_6 : Addr) (w_7 : Addr) (w_8 : Addr) (w_9 : Addr) (w_10 : Addr) (w_11 : Addr) (w_12 : Addr) (w_13 : Addr) (w_14 : Addr) (w_15 : Addr) (w_16 : Addr) (p0 : Int32) (h0 : Heap) (n0 : Nat) (v : Option Value) (h : Heap) (L : List Loc) : Prop := v = some (.int (sp0 p0)) ∧ Fr n0 L ∧ True
set_option maxRecDepth 65536 in
set_option maxHeartbeats 40000000 in
theorem rm0 (l : Launch) (Z : State) (a0 : Array Value) (hw : ∀ d ∈ tables_1, d.before a0 Z = true) (ws : List Jvm.Cond) (w_1 : Addr) (w_2 : Addr) (w_3 : Addr) (w_4 : Addr) (w_5 : Addr) (w_6 : Addr) (w_7 : Addr) (w_8 : Addr) (w_9 : Addr) (w_10 : Addr) (w_11 : Addr) (w_12 : Addr) (w_13 : Addr) (w_14 : Addr) (w_15 : Addr) (w_16 : Addr) (hS : StF Z w_1 w_2 w_3 w_4 w_5 w_6 w_7 w_8 w_9 w_10 w_11 w_12 w_13 w_14 w_15 w_16) (p0 : Int32) (h0 : Heap) (n0 : Nat) (O0 : Old Z n0 h0) :
    MetFree l x (head1 (Jvm.Cond.code x code maxLocals ret :: ws) room_1) (fun a U => a = #[(.int p0)] ∧ Z.Warmed39 U.vm ∧ U.heap = h0) (fun _ _ _ _ _ => True) (fun _ U o U' => ∃ v L, o = .returned v ∧ Q0 Z w_1 w_2 w_3 w_4 w_5 w_6 w_7 w_8 w_9 w_10 w_11 w_12 w_13 w_14 w_15 w_16 p0 h0 n0 v U'.heap L ∧ FrameEnd U o U' L room_1.cells room_1.slots) := by
  refine MetFree.of_bodySF (plainFor_of_name pn_0) hisR ?_
  intro p e s m args below meth c s₁ Bd hml0 hP hK
  obtain ⟨rfl, hZ, hh⟩ := hP
  have hx := Bd.exec
  have hby := Bd.bytes
  have hml : c.maxLocals = 6 := hml0
  have hown : s.vm.findClass "com/example/discharge/discharge/frontend/BinaryOperatorIsShiftPinLaw" = some m.cls := findClass_of_methodNamed Bd.named
  have hnm := (name_of_methodNamed Bd.named Bd.method).1
  have X0 : Stand p l e room_1 s m #[(.int p0)] below meth c s₁ [] 0 0 := Stand.of_body Bd
  have e0 : s₁.heap = h0 := by rw [← hh, Bd.state]; rfl
  have N0 := Fr.nil n0
  have hS0 := hS
  obtain ⟨S_1, E_1, S_2, E_2, S_3, E_3, S_4, E_4, S_5, E_5, S_6, E_6, S_7, E_7, S_8, E_8, S_9, E_9, S_10, E_10, S_11, E_11, S_12, E_12, S_13, E_13, S_14, E_14, S_15, E_15, S_16, E_16, F_1_ordinal, F_9_ordinal, F_10_ordinal, F_4_ordinal, F_15_ordinal, F_16_ordinal, F_11_ordinal, F_8_ordinal, F_3_ordinal, F_12_ordinal, F_9_comparison, F_2_ordinal, F_5_ordinal, F_13_ordinal, F_14_ordinal, F_7_ordinal, F_10_comparison, F_6_ordinal, F_1_comparison, F_2_comparison, F_3_comparison, F_4_comparison, F_5_comparison, F_6_comparison, F_7_comparison, F_8_comparison, F_11_comparison, F_12_comparison, F_13_comparison, F_14_comparison, F_15_comparison, F_16_comparison⟩ := hS
  have pre0 : ∀ t, Steps p.tables e below (s₁.setTop (mkF m 0 #[.val (.int p0), .unset, .unset, .unset, .unset, .unset] [])) t → Steps p.tables e below (s₁.setTop (entryFrame m #[(.int p0)] maxLocals)) t := fun t k => castTop (ef_0 m p0) k
  obtain ⟨T95, h95, k95, X95, e95, E95, A95, OV95, st95⟩ := newR X0 hx hZ hown (hw _ (tk 0 rfl)) (hw _ (tk 1 rfl)) e0 (g := (mkF m 2 #[.val (.int p0), .unset, .unset, .unset, .unset, .unset] [(.int (16 : Int32))])) rfl (hb hby at_2) rfl (by decide) (cap := 16) (by decide) (by decide) (by decide) (by decide)
  obtain ⟨b95, g95⟩ : ∃ z, z = h0.size := ⟨_, rfl⟩
  rw [← g95] at A95 st95
  have g_b95 : n0 ≤ b95 := Nat.le_trans (own_old O0) (Nat.le_of_eq g95.symm)
  have O95 : Old Z n0 h95 := O0.ext E95
  have V_b95 : Arv Z h95 b95 k95 (.object "com/example/discharge/discharge/frontend/Expression$BinaryOperator") (16 : Int32) [.null, .null, .null, .null, .null, .null, .null, .null, .null, .null, .null, .null, .null, .null, .null, .null] .null := (Arv.new A95 (by decide)).pad (pad_rep [] .null 16)
  obtain ⟨T96, X96, e96, st96⟩ := getS2 X95 hx hZ hown (host := "") (Or.inl (hw _ (tk 2 rfl))) Via.refl e95 (S_1.ext O95.2) (g := (mkF m 7 #[.val (.int p0), .unset, .unset, .unset, .unset, .unset] [(.int (0 : Int32)), (.ref b95), (.ref b95)])) rfl (hb hby at_7)
  obtain ⟨cl97, Ar97, qa97, Sa97, Ma97, Ha97, Ga97⟩ := id V_b95
  have hin97 : ¬ ((0 : Int32) < 0 ∨ cl97.slots.size ≤ ((0 : Int32)).toNatClampNeg) := by exact inb_of Sa97 ⟨by decide, by decide⟩
  obtain ⟨T98, h98, X98, e98, W98, st98⟩ := stR X96 hx hZ e96 Ar97 (j := (0 : Int32)) hin97 rfl (Sto.ofV Ar97 qa97 OV95 (Ins.self (E_1.ext O95.2))) (g := (mkF m 10 #[.val (.int p0), .unset, .unset, .unset, .unset, .unset] [(.ref w_1), (.int (0 : Int32)), (.ref b95), (.ref b95)])) rfl rfl (hb hby at_10)
  have V_b95_98 : Arv Z h98 b95 k95 (.object "com/example/discharge/discharge/frontend/Expression$BinaryOperator") (16 : Int32) [(.ref w_1), .null, .null, .null, .null, .null, .null, .null, .null, .null, .null, .null, .null, .null, .null, .null] .null := Arv.set Ar97 qa97 Sa97 Ma97 Ha97 Ga97 rfl W98 0 rfl (Nat.le_of_ble_eq_true rfl)
  have O98 : Old Z n0 h98 := O95.wr W98 g_b95
  have N98 := Fr.snoc X98 N0 g_b95
  obtain ⟨T99, X99, e99, st99⟩ := getS2 X98 hx hZ hown (host := "") (Or.inl (hw _ (tk 6 rfl))) Via.refl e98 (S_2.ext O98.2) (g := (mkF m 13 #[.val (.int p0), .unset, .unset, .unset, .unset, .unset] [(.int (1 : Int32)), (.ref b95), (.ref b95)])) rfl (hb hby at_13)
  obtain ⟨cl100, Ar100, qa100, Sa100, Ma100, Ha100, Ga100⟩ := id V_b95_98
  have hin100 : ¬ ((1 : Int32) < 0 ∨ cl100.slots.size ≤ ((1 : Int32)).toNatClampNeg) := by exact inb_of Sa100 ⟨by decide, by decide⟩
  obtain ⟨T101, h101, X101, e101, W101, st101⟩ := stR X99 hx hZ e99 Ar100 (j := (1 : Int32)) hin100 rfl (Sto.ofV Ar100 qa100 OV95 (Ins.self (E_2.ext O98.2))) (g := (mkF m 16 #[.val (.int p0), .unset, .unset, .unset, .unset, .unset] [(.ref w_2), (.int (1 : Int32)), (.ref b95), (.ref b95)])) rfl rfl (hb hby at_16)
  have V_b95_101 : Arv Z h101 b95 k95 (.object "com/example/discharge/discharge/frontend/Expression$BinaryOperator") (16 : Int32) [(.ref w_1), (.ref w_2), .null, .null, .null, .null, .null, .null, .null, .null, .null, .null, .null, .null, .null, .null] .null := Arv.set Ar100 qa100 Sa100 Ma100 Ha100 Ga100 rfl W101 1 rfl (Nat.le_of_ble_eq_true rfl)
  have O101 : Old Z n0 h101 := O98.wr W101 g_b95
  have N101 := Fr.snoc X101 N98 g_b95
  obtain ⟨T102, X102, e102, st102⟩ := getS2 X101 hx hZ hown (host := "") (Or.inl (hw _ (tk 8 rfl))) Via.refl e101 (S_3.ext O101.2) (g := (mkF m 19 #[.val (.int p0), .unset, .unset, .unset, .unset, .unset] [(.int (2 : Int32)), (.ref b95), (.ref b95)])) rfl (hb hby at_19)
  obtain ⟨cl103, Ar103, qa103, Sa103, Ma103, Ha103, Ga103⟩ := id V_b95_101
  have hin103 : ¬ ((2 : Int32) < 0 ∨ cl103.slots.size ≤ ((2 : Int32)).toNatClampNeg) := by exact inb_of Sa103 ⟨by decide, by decide⟩
  obtain ⟨T104, h104, X104, e104, W104, st104⟩ := stR X102 hx hZ e102 Ar103 (j := (2 : Int32)) hin103 rfl (Sto.ofV Ar103 qa103 OV95 (Ins.self (E_3.ext O101.2))) (g := (mkF m 22 #[.val (.int p0), .unset, .unset, .unset, .unset, .unset] [(.ref w_3), (.int (2 : Int32)), (.ref b95), (.ref b95)])) rfl rfl (hb hby at_22)
  have V_b95_104 : Arv Z h104 b95 k95 (.object "com/example/discharge/discharge/frontend/Expression$BinaryOperator") (16 : Int32) [(.ref w_1), (.ref w_2), (.ref w_3), .null, .null, .null, .null, .null, .null, .null, .null, .null, .null, .null, .null, .null] .null := Arv.set Ar103 qa103 Sa103 Ma103 Ha103 Ga103 rfl W104 2 rfl (Nat.le_of_ble_eq_true rfl)
  have O104 : Old Z n0 h104 := O101.wr W104 g_b95
  have N104 := Fr.snoc X104 N101 g_b95
  obtain ⟨T105, X105, e105, st105⟩ := getS2 X104 hx hZ hown (host := "") (Or.inl (hw _ (tk 10 rfl))) Via.refl e104 (S_4.ext O104.2) (g := (mkF m 25 #[.val (.int p0), .unset, .unset, .unset, .unset, .unset] [(.int (3 : Int32)), (.ref b95), (.ref b95)])) rfl (hb hby at_25)
  obtain ⟨cl106, Ar106, qa106, Sa106, Ma106, Ha106, Ga106⟩ := id V_b95_104
  have hin106 : ¬ ((3 : Int32) < 0 ∨ cl106.slots.size ≤ ((3 : Int32)).toNatClampNeg) := by exact inb_of Sa106 ⟨by decide, by decide⟩
  obtain ⟨T107, h107, X107, e107, W107, st107⟩ := stR X105 hx hZ e105 Ar106 (j := (3 : Int32)) hin106 rfl (Sto.ofV Ar106 qa106 OV95 (Ins.self (E_4.ext O104.2))) (g := (mkF m 28 #[.val (.int p0), .unset, .unset, .unset, .unset, .unset] [(.ref w_4), (.int (3 : Int32)), (.ref b95), (.ref b95)])) rfl rfl (hb hby at_28)
  have V_b95_107 : Arv Z h107 b95 k95 (.object "com/example/discharge/discharge/frontend/Expression$BinaryOperator") (16 : Int32) [(.ref w_1), (.ref w_2), (.ref w_3), (.ref w_4), .null, .null, .null, .null, .null, .null, .null, .null, .null, .null, .null, .null] .null := Arv.set Ar106 qa106 Sa106 Ma106 Ha106 Ga106 rfl W107 3 rfl (Nat.le_of_ble_eq_true rfl)
  have O107 : Old Z n0 h107 := O104.wr W107 g_b95
  have N107 := Fr.snoc X107 N104 g_b95
  obtain ⟨T108, X108, e108, st108⟩ := getS2 X107 hx hZ hown (host := "") (Or.inl (hw _ (tk 12 rfl))) Via.refl e107 (S_5.ext O107.2) (g := (mkF m 31 #[.val (.int p0), .unset, .unset, .unset, .unset, .unset] [(.int (4 : Int32)), (.ref b95), (.ref b95)])) rfl (hb hby at_31)
  obtain ⟨cl109, Ar109, qa109, Sa109, Ma109, Ha109, Ga109⟩ := id V_b95_107
  have hin109 : ¬ ((4 : Int32) < 0 ∨ cl109.slots.size ≤ ((4 : Int32)).toNatClampNeg) := by exact inb_of Sa109 ⟨by decide, by decide⟩
  obtain ⟨T110, h110, X110, e110, W110, st110⟩ := stR X108 hx hZ e108 Ar109 (j := (4 : Int32)) hin109 rfl (Sto.ofV Ar109 qa109 OV95 (Ins.self (E_5.ext O107.2))) (g := (mkF m 34 #[.val (.int p0), .unset, .unset, .unset, .unset, .unset] [(.ref w_5), (.int (4 : Int32)), (.ref b95), (.ref b95)])) rfl rfl (hb hby at_34)
  have V_b95_110 : Arv Z h110 b95 k95 (.object "com/example/discharge/discharge/frontend/Expression$BinaryOperator") (16 : Int32) [(.ref w_1), (.ref w_2), (.ref w_3), (.ref w_4), (.ref w_5), .null, .null, .null, .null, .null, .null, .null, .null, .null, .null, .null] .null := Arv.set Ar109 qa109 Sa109 Ma109 Ha109 Ga109 rfl W110 4 rfl (Nat.le_of_ble_eq_true rfl)
  have O110 : Old Z n0 h110 := O107.wr W110 g_b95
  have N110 := Fr.snoc X110 N107 g_b95
  obtain ⟨T111, X111, e111, st111⟩ := getS2 X110 hx hZ hown (host := "") (Or.inl (hw _ (tk 14 rfl))) Via.refl e110 (S_6.ext O110.2) (g := (mkF m 37 #[.val (.int p0), .unset, .unset, .unset, .unset, .unset] [(.int (5 : Int32)), (.ref b95), (.ref b95)])) rfl (hb hby at_37)
  obtain ⟨cl112, Ar112, qa112, Sa112, Ma112, Ha112, Ga112⟩ := id V_b95_110
  have hin112 : ¬ ((5 : Int32) < 0 ∨ cl112.slots.size ≤ ((5 : Int32)).toNatClampNeg) := by exact inb_of Sa112 ⟨by decide, by decide⟩
  obtain ⟨T113, h113, X113, e113, W113, st113⟩ := stR X111 hx hZ e111 Ar112 (j := (5 : Int32)) hin112 rfl (Sto.ofV Ar112 qa112 OV95 (Ins.self (E_6.ext O110.2))) (g := (mkF m 40 #[.val (.int p0), .unset, .unset, .unset, .unset, .unset] [(.ref w_6), (.int (5 : Int32)), (.ref b95), (.ref b95)])) rfl rfl (hb hby at_40)
  have V_b95_113 : Arv Z h113 b95 k95 (.object "com/example/discharge/discharge/frontend/Expression$BinaryOperator") (16 : Int32) [(.ref w_1), (.ref w_2), (.ref w_3), (.ref w_4), (.ref w_5), (.ref w_6), .null, .null, .null, .null, .null, .null, .null, .null, .null, .null] .null := Arv.set Ar112 qa112 Sa112 Ma112 Ha112 Ga112 rfl W113 5 rfl (Nat.le_of_ble_eq_true rfl)
  have O113 : Old Z n0 h113 := O110.wr W113 g_b95
  have N113 := Fr.snoc X113 N110 g_b95
  obtain ⟨T114, X114, e114, st114⟩ := getS2 X113 hx hZ hown (host := "") (Or.inl (hw _ (tk 16 rfl))) Via.refl e113 (S_7.ext O113.2) (g := (mkF m 44 #[.val (.int p0), .unset, .unset, .unset, .unset, .unset] [(.int (6 : Int32)), (.ref b95), (.ref b95)])) rfl (hb hby at_44)
  obtain ⟨cl115, Ar115, qa115, Sa115, Ma115, Ha115, Ga115⟩ := id V_b95_113
  have hin115 : ¬ ((6 : Int32) < 0 ∨ cl115.slots.size ≤ ((6 : Int32)).toNatClampNeg) := by exact inb_of Sa115 ⟨by decide, by decide⟩
  obtain ⟨T116, h116, X116, e116, W116, st116⟩ := stR X114 hx hZ e114 Ar115 (j := (6 : Int32)) hin115 rfl (Sto.ofV Ar115 qa115 OV95 (Ins.self (E_7.ext O113.2))) (g := (mkF m 47 #[.val (.int p0), .unset, .unset, .unset, .unset, .unset] [(.ref w_7), (.int (6 : Int32)), (.ref b95), (.ref b95)])) rfl rfl (hb hby at_47)
  have V_b95_116 : Arv Z h116 b95 k95 (.object "com/example/discharge/discharge/frontend/Expression$BinaryOperator") (16 : Int32) [(.ref w_1), (.ref w_2), (.ref w_3), (.ref w_4), (.ref w_5), (.ref w_6), (.ref w_7), .null, .null, .null, .null, .null, .null, .null, .null, .null] .null := Arv.set Ar115 qa115 Sa115 Ma115 Ha115 Ga115 rfl W116 6 rfl (Nat.le_of_ble_eq_true rfl)
  have O116 : Old Z n0 h116 := O113.wr W116 g_b95
  have N116 := Fr.snoc X116 N113 g_b95
  obtain ⟨T117, X117, e117, st117⟩ := getS2 X116 hx hZ hown (host := "") (Or.inl (hw _ (tk 18 rfl))) Via.refl e116 (S_8.ext O116.2) (g := (mkF m 51 #[.val (.int p0), .unset, .unset, .unset, .unset, .unset] [(.int (7 : Int32)), (.ref b95), (.ref b95)])) rfl (hb hby at_51)
  obtain ⟨cl118, Ar118, qa118, Sa118, Ma118, Ha118, Ga118⟩ := id V_b95_116
  have hin118 : ¬ ((7 : Int32) < 0 ∨ cl118.slots.size ≤ ((7 : Int32)).toNatClampNeg) := by exact inb_of Sa118 ⟨by decide, by decide⟩
  obtain ⟨T119, h119, X119, e119, W119, st119⟩ := stR X117 hx hZ e117 Ar118 (j := (7 : Int32)) hin118 rfl (Sto.ofV Ar118 qa118 OV95 (Ins.self (E_8.ext O116.2))) (g := (mkF m 54 #[.val (.int p0), .unset, .unset, .unset, .unset, .unset] [(.ref w_8), (.int (7 : Int32)), (.ref b95), (.ref b95)])) rfl rfl (hb hby at_54)
  have V_b95_119 : Arv Z h119 b95 k95 (.object "com/example/discharge/discharge/frontend/Expression$BinaryOperator") (16 : Int32) [(.ref w_1), (.ref w_2), (.ref w_3), (.ref w_4), (.ref w_5), (.ref w_6), (.ref w_7), (.ref w_8), .null, .null, .null, .null, .null, .null, .null, .null] .null := Arv.set Ar118 qa118 Sa118 Ma118 Ha118 Ga118 rfl W119 7 rfl (Nat.le_of_ble_eq_true rfl)
  have O119 : Old Z n0 h119 := O116.wr W119 g_b95
  have N119 := Fr.snoc X119 N116 g_b95
  obtain ⟨T120, X120, e120, st120⟩ := getS2 X119 hx hZ hown (host := "") (Or.inl (hw _ (tk 20 rfl))) Via.refl e119 (S_9.ext O119.2) (g := (mkF m 58 #[.val (.int p0), .unset, .unset, .unset, .unset, .unset] [(.int (8 : Int32)), (.ref b95), (.ref b95)])) rfl (hb hby at_58)
  obtain ⟨cl121, Ar121, qa121, Sa121, Ma121, Ha121, Ga121⟩ := id V_b95_119
  have hin121 : ¬ ((8 : Int32) < 0 ∨ cl121.slots.size ≤ ((8 : Int32)).toNatClampNeg) := by exact inb_of Sa121 ⟨by decide, by decide⟩
  obtain ⟨T122, h122, X122, e122, W122, st122⟩ := stR X120 hx hZ e120 Ar121 (j := (8 : Int32)) hin121 rfl (Sto.ofV Ar121 qa121 OV95 (Ins.self (E_9.ext O119.2))) (g := (mkF m 61 #[.val (.int p0), .unset, .unset, .unset, .unset, .unset] [(.ref w_9), (.int (8 : Int32)), (.ref b95), (.ref b95)])) rfl rfl (hb hby at_61)
  have V_b95_122 : Arv Z h122 b95 k95 (.object "com/example/discharge/discharge/frontend/Expression$BinaryOperator") (16 : Int32) [(.ref w_1), (.ref w_2), (.ref w_3), (.ref w_4), (.ref w_5), (.ref w_6), (.ref w_7), (.ref w_8), (.ref w_9), .null, .null, .null, .null, .null, .null, .null] .null := Arv.set Ar121 qa121 Sa121 Ma121 Ha121 Ga121 rfl W122 8 rfl (Nat.le_of_ble_eq_true rfl)
  have O122 : Old Z n0 h122 := O119.wr W122 g_b95
  have N122 := Fr.snoc X122 N119 g_b95
  obtain ⟨T123, X123, e123, st123⟩ := getS2 X122 hx hZ hown (host := "") (Or.inl (hw _ (tk 22 rfl))) Via.refl e122 (S_10.ext O122.2) (g := (mkF m 65 #[.val (.int p0), .unset, .unset, .unset, .unset, .unset] [(.int (9 : Int32)), (.ref b95), (.ref b95)])) rfl (hb hby at_65)
  obtain ⟨cl124, Ar124, qa124, Sa124, Ma124, Ha124, Ga124⟩ := id V_b95_122
  have hin124 : ¬ ((9 : Int32) < 0 ∨ cl124.slots.size ≤ ((9 : Int32)).toNatClampNeg) := by exact inb_of Sa124 ⟨by decide, by decide⟩
  obtain ⟨T125, h125, X125, e125, W125, st125⟩ := stR X123 hx hZ e123 Ar124 (j := (9 : Int32)) hin124 rfl (Sto.ofV Ar124 qa124 OV95 (Ins.self (E_10.ext O122.2))) (g := (mkF m 68 #[.val (.int p0), .unset, .unset, .unset, .unset, .unset] [(.ref w_10), (.int (9 : Int32)), (.ref b95), (.ref b95)])) rfl rfl (hb hby at_68)
  have V_b95_125 : Arv Z h125 b95 k95 (.object "com/example/discharge/discharge/frontend/Expression$BinaryOperator") (16 : Int32) [(.ref w_1), (.ref w_2), (.ref w_3), (.ref w_4), (.ref w_5), (.ref w_6), (.ref w_7), (.ref w_8), (.ref w_9), (.ref w_10), .null, .null, .null, .null, .null, .null] .null := Arv.set Ar124 qa124 Sa124 Ma124 Ha124 Ga124 rfl W125 9 rfl (Nat.le_of_ble_eq_true rfl)
  have O125 : Old Z n0 h125 := O122.wr W125 g_b95
  have N125 := Fr.snoc X125 N122 g_b95
  obtain ⟨T126, X126, e126, st126⟩ := getS2 X125 hx hZ hown (host := "") (Or.inl (hw _ (tk 24 rfl))) Via.refl e125 (S_11.ext O125.2) (g := (mkF m 72 #[.val (.int p0), .unset, .unset, .unset, .unset, .unset] [(.int (10 : Int32)), (.ref b95), (.ref b95)])) rfl (hb hby at_72)
  obtain ⟨cl127, Ar127, qa127, Sa127, Ma127, Ha127, Ga127⟩ := id V_b95_125
  have hin127 : ¬ ((10 : Int32) < 0 ∨ cl127.slots.size ≤ ((10 : Int32)).toNatClampNeg) := by exact inb_of Sa127 ⟨by decide, by decide⟩
  obtain ⟨T128, h128, X128, e128, W128, st128⟩ := stR X126 hx hZ e126 Ar127 (j := (10 : Int32)) hin127 rfl (Sto.ofV Ar127 qa127 OV95 (Ins.self (E_11.ext O125.2))) (g := (mkF m 75 #[.val (.int p0), .unset, .unset, .unset, .unset, .unset] [(.ref w_11), (.int (10 : Int32)), (.ref b95), (.ref b95)])) rfl rfl (hb hby at_75)
  have V_b95_128 : Arv Z h128 b95 k95 (.object "com/example/discharge/discharge/frontend/Expression$BinaryOperator") (16 : Int32) [(.ref w_1), (.ref w_2), (.ref w_3), (.ref w_4), (.ref w_5), (.ref w_6), (.ref w_7), (.ref w_8), (.ref w_9), (.ref w_10), (.ref w_11), .null, .null, .null, .null, .null] .null := Arv.set Ar127 qa127 Sa127 Ma127 Ha127 Ga127 rfl W128 10 rfl (Nat.le_of_ble_eq_true rfl)
  have O128 : Old Z n0 h128 := O125.wr W128 g_b95
  have N128 := Fr.snoc X128 N125 g_b95
  obtain ⟨T129, X129, e129, st129⟩ := getS2 X128 hx hZ hown (host := "") (Or.inl (hw _ (tk 26 rfl))) Via.refl e128 (S_12.ext O128.2) (g := (mkF m 79 #[.val (.int p0), .unset, .unset, .unset, .unset, .unset] [(.int (11 : Int32)), (.ref b95), (.ref b95)])) rfl (hb hby at_79)
  obtain ⟨cl130, Ar130, qa130, Sa130, Ma130, Ha130, Ga130⟩ := id V_b95_128
  have hin130 : ¬ ((11 : Int32) < 0 ∨ cl130.slots.size ≤ ((11 : Int32)).toNatClampNeg) := by exact inb_of Sa130 ⟨by decide, by decide⟩
  obtain ⟨T131, h131, X131, e131, W131, st131⟩ := stR X129 hx hZ e129 Ar130 (j := (11 : Int32)) hin130 rfl (Sto.ofV Ar130 qa130 OV95 (Ins.self (E_12.ext O128.2))) (g := (mkF m 82 #[.val (.int p0), .unset, .unset, .unset, .unset, .unset] [(.ref w_12), (.int (11 : Int32)), (.ref b95), (.ref b95)])) rfl rfl (hb hby at_82)
  have V_b95_131 : Arv Z h131 b95 k95 (.object "com/example/discharge/discharge/frontend/Expression$BinaryOperator") (16 : Int32) [(.ref w_1), (.ref w_2), (.ref w_3), (.ref w_4), (.ref w_5), (.ref w_6), (.ref w_7), (.ref w_8), (.ref w_9), (.ref w_10), (.ref w_11), (.ref w_12), .null, .null, .null, .null] .null := Arv.set Ar130 qa130 Sa130 Ma130 Ha130 Ga130 rfl W131 11 rfl (Nat.le_of_ble_eq_true rfl)
  have O131 : Old Z n0 h131 := O128.wr W131 g_b95
  have N131 := Fr.snoc X131 N128 g_b95
  obtain ⟨T132, X132, e132, st132⟩ := getS2 X131 hx hZ hown (host := "") (Or.inl (hw _ (tk 28 rfl))) Via.refl e131 (S_13.ext O131.2) (g := (mkF m 86 #[.val (.int p0), .unset, .unset, .unset, .unset, .unset] [(.int (12 : Int32)), (.ref b95), (.ref b95)])) rfl (hb hby at_86)
  obtain ⟨cl133, Ar133, qa133, Sa133, Ma133, Ha133, Ga133⟩ := id V_b95_131
  have hin133 : ¬ ((12 : Int32) < 0 ∨ cl133.slots.size ≤ ((12 : Int32)).toNatClampNeg) := by exact inb_of Sa133 ⟨by decide, by decide⟩
  obtain ⟨T134, h134, X134, e134, W134, st134⟩ := stR X132 hx hZ e132 Ar133 (j := (12 : Int32)) hin133 rfl (Sto.ofV Ar133 qa133 OV95 (Ins.self (E_13.ext O131.2))) (g := (mkF m 89 #[.val (.int p0), .unset, .unset, .unset, .unset, .unset] [(.ref w_13), (.int (12 : Int32)), (.ref b95), (.ref b95)])) rfl rfl (hb hby at_89)
  have V_b95_134 : Arv Z h134 b95 k95 (.object "com/example/discharge/discharge/frontend/Expression$BinaryOperator") (16 : Int32) [(.ref w_1), (.ref w_2), (.ref w_3), (.ref w_4), (.ref w_5), (.ref w_6), (.ref w_7), (.ref w_8), (.ref w_9), (.ref w_10), (.ref w_11), (.ref w_12), (.ref w_13), .null, .null, .null] .null := Arv.set Ar133 qa133 Sa133 Ma133 Ha133 Ga133 rfl W134 12 rfl (Nat.le_of_ble_eq_true rfl)
  have O134 : Old Z n0 h134 := O131.wr W134 g_b95
  have N134 := Fr.snoc X134 N131 g_b95
  obtain ⟨T135, X135, e135, st135⟩ := getS2 X134 hx hZ hown (host := "") (Or.inl (hw _ (tk 30 rfl))) Via.refl e134 (S_14.ext O134.2) (g := (mkF m 93 #[.val (.int p0), .unset, .unset, .unset, .unset, .unset] [(.int (13 : Int32)), (.ref b95), (.ref b95)])) rfl (hb hby at_93)
  obtain ⟨cl136, Ar136, qa136, Sa136, Ma136, Ha136, Ga136⟩ := id V_b95_134
  have hin136 : ¬ ((13 : Int32) < 0 ∨ cl136.slots.size ≤ ((13 : Int32)).toNatClampNeg) := by exact inb_of Sa136 ⟨by decide, by decide⟩
  obtain ⟨T137, h137, X137, e137, W137, st137⟩ := stR X135 hx hZ e135 Ar136 (j := (13 : Int32)) hin136 rfl (Sto.ofV Ar136 qa136 OV95 (Ins.self (E_14.ext O134.2))) (g := (mkF m 96 #[.val (.int p0), .unset, .unset, .unset, .unset, .unset] [(.ref w_14), (.int (13 : Int32)), (.ref b95), (.ref b95)])) rfl rfl (hb hby at_96)
  have V_b95_137 : Arv Z h137 b95 k95 (.object "com/example/discharge/discharge/frontend/Expression$BinaryOperator") (16 : Int32) [(.ref w_1), (.ref w_2), (.ref w_3), (.ref w_4), (.ref w_5), (.ref w_6), (.ref w_7), (.ref w_8), (.ref w_9), (.ref w_10), (.ref w_11), (.ref w_12), (.ref w_13), (.ref w_14), .null, .null] .null := Arv.set Ar136 qa136 Sa136 Ma136 Ha136 Ga136 rfl W137 13 rfl (Nat.le_of_ble_eq_true rfl)
  have O137 : Old Z n0 h137 := O134.wr W137 g_b95
  have N137 := Fr.snoc X137 N134 g_b95
  obtain ⟨T138, X138, e138, st138⟩ := getS2 X137 hx hZ hown (host := "") (Or.inl (hw _ (tk 32 rfl))) Via.refl e137 (S_15.ext O137.2) (g := (mkF m 100 #[.val (.int p0), .unset, .unset, .unset, .unset, .unset] [(.int (14 : Int32)), (.ref b95), (.ref b95)])) rfl (hb hby at_100)
  obtain ⟨cl139, Ar139, qa139, Sa139, Ma139, Ha139, Ga139⟩ := id V_b95_137
  have hin139 : ¬ ((14 : Int32) < 0 ∨ cl139.slots.size ≤ ((14 : Int32)).toNatClampNeg) := by exact inb_of Sa139 ⟨by decide, by decide⟩
  obtain ⟨T140, h140, X140, e140, W140, st140⟩ := stR X138 hx hZ e138 Ar139 (j := (14 : Int32)) hin139 rfl (Sto.ofV Ar139 qa139 OV95 (Ins.self (E_15.ext O137.2))) (g := (mkF m 103 #[.val (.int p0), .unset, .unset, .unset, .unset, .unset] [(.ref w_15), (.int (14 : Int32)), (.ref b95), (.ref b95)])) rfl rfl (hb hby at_103)
  have V_b95_140 : Arv Z h140 b95 k95 (.object "com/example/discharge/discharge/frontend/Expression$BinaryOperator") (16 : Int32) [(.ref w_1), (.ref w_2), (.ref w_3), (.ref w_4), (.ref w_5), (.ref w_6), (.ref w_7), (.ref w_8), (.ref w_9), (.ref w_10), (.ref w_11), (.ref w_12), (.ref w_13), (.ref w_14), (.ref w_15), .null] .null := Arv.set Ar139 qa139 Sa139 Ma139 Ha139 Ga139 rfl W140 14 rfl (Nat.le_of_ble_eq_true rfl)
  have O140 : Old Z n0 h140 := O137.wr W140 g_b95
  have N140 := Fr.snoc X140 N137 g_b95
  obtain ⟨T141, X141, e141, st141⟩ := getS2 X140 hx hZ hown (host := "") (Or.inl (hw _ (tk 34 rfl))) Via.refl e140 (S_16.ext O140.2) (g := (mkF m 107 #[.val (.int p0), .unset, .unset, .unset, .unset, .unset] [(.int (15 : Int32)), (.ref b95), (.ref b95)])) rfl (hb hby at_107)
  obtain ⟨cl142, Ar142, qa142, Sa142, Ma142, Ha142, Ga142⟩ := id V_b95_140
  have hin142 : ¬ ((15 : Int32) < 0 ∨ cl142.slots.size ≤ ((15 : Int32)).toNatClampNeg) := by exact inb_of Sa142 ⟨by decide, by decide⟩
  obtain ⟨T143, h143, X143, e143, W143, st143⟩ := stR X141 hx hZ e141 Ar142 (j := (15 : Int32)) hin142 rfl (Sto.ofV Ar142 qa142 OV95 (Ins.self (E_16.ext O140.2))) (g := (mkF m 110 #[.val (.int p0), .unset, .unset, .unset, .unset, .unset] [(.ref w_16), (.int (15 : Int32)), (.ref b95), (.ref b95)])) rfl rfl (hb hby at_110)
  have V_b95_143 : Arv Z h143 b95 k95 (.object "com/example/discharge/discharge/frontend/Expression$BinaryOperator") (16 : Int32) [(.ref w_1), (.ref w_2), (.ref w_3), (.ref w_4), (.ref w_5), (.ref w_6), (.ref w_7), (.ref w_8), (.ref w_9), (.ref w_10), (.ref w_11), (.ref w_12), (.ref w_13), (.ref w_14), (.ref w_15), (.ref w_16)] .null := Arv.set Ar142 qa142 Sa142 Ma142 Ha142 Ga142 rfl W143 15 rfl (Nat.le_of_ble_eq_true rfl)
  have O143 : Old Z n0 h143 := O140.wr W143 g_b95
  have N143 := Fr.snoc X143 N140 g_b95
  have pre144 : ∀ t, Steps p.tables e below (T143.setTop (mkF m 119 #[.val (.int p0), .val (.ref b95), .val (.int (p0 &&& (15 : Int32))), .unset, .unset, .unset] [(.int (p0 &&& (15 : Int32))), (.ref b95)])) t → Steps p.tables e below (s₁.setTop (entryFrame m #[(.int p0)] maxLocals)) t := fun t kt => by
    refine pre0 t ?_
    show Steps p.tables e below (s₁.setTop (mkF m 0 #[.val (.int p0), .unset, .unset, .unset, .unset, .unset] [])) _
    refine XS.bipush X0.here hx rfl (hb hby at_0) ?_
    show Steps p.tables e below (s₁.setTop (mkF m 2 #[.val (.int p0), .unset, .unset, .unset, .unset, .unset] [(.int (16 : Int32))])) _
    refine st95 _ ?_
    show Steps p.tables e below (T95.setTop (mkF m 5 #[.val (.int p0), .unset, .unset, .unset, .unset, .unset] [(.ref b95)])) _
    refine XS.dup X95.here hx rfl (hb hby at_5) rfl rfl ?_
    show Steps p.tables e below (T95.setTop (mkF m 6 #[.val (.int p0), .unset, .unset, .unset, .unset, .unset] [(.ref b95), (.ref b95)])) _
    refine XS.iconst X95.here hx rfl (hb hby at_6) ?_
    show Steps p.tables e below (T95.setTop (mkF m 7 #[.val (.int p0), .unset, .unset, .unset, .unset, .unset] [(.int (0 : Int32)), (.ref b95), (.ref b95)])) _
    refine st96 _ ?_
    show Steps p.tables e below (T96.setTop (mkF m 10 #[.val (.int p0), .unset, .unset, .unset, .unset, .unset] [(.ref w_1), (.int (0 : Int32)), (.ref b95), (.ref b95)])) _
    refine st98 _ ?_
    show Steps p.tables e below (T98.setTop (mkF m 11 #[.val (.int p0), .unset, .unset, .unset, .unset, .unset] [(.ref b95)])) _
    refine XS.dup X98.here hx rfl (hb hby at_11) rfl rfl ?_
    show Steps p.tables e below (T98.setTop (mkF m 12 #[.val (.int p0), .unset, .unset, .unset, .unset, .unset] [(.ref b95), (.ref b95)])) _
    refine XS.iconst X98.here hx rfl (hb hby at_12) ?_
    show Steps p.tables e below (T98.setTop (mkF m 13 #[.val (.int p0), .unset, .unset, .unset, .unset, .unset] [(.int (1 : Int32)), (.ref b95), (.ref b95)])) _
    refine st99 _ ?_
    show Steps p.tables e below (T99.setTop (mkF m 16 #[.val (.int p0), .unset, .unset, .unset, .unset, .unset] [(.ref w_2), (.int (1 : Int32)), (.ref b95), (.ref b95)])) _
    refine st101 _ ?_
    show Steps p.tables e below (T101.setTop (mkF m 17 #[.val (.int p0), .unset, .unset, .unset, .unset, .unset] [(.ref b95)])) _
    refine XS.dup X101.here hx rfl (hb hby at_17) rfl rfl ?_
    show Steps p.tables e below (T101.setTop (mkF m 18 #[.val (.int p0), .unset, .unset, .unset, .unset, .unset] [(.ref b95), (.ref b95)])) _
    refine XS.iconst X101.here hx rfl (hb hby at_18) ?_
    show Steps p.tables e below (T101.setTop (mkF m 19 #[.val (.int p0), .unset, .unset, .unset, .unset, .unset] [(.int (2 : Int32)), (.ref b95), (.ref b95)])) _
    refine st102 _ ?_
    show Steps p.tables e below (T102.setTop (mkF m 22 #[.val (.int p0), .unset, .unset, .unset, .unset, .unset] [(.ref w_3), (.int (2 : Int32)), (.ref b95), (.ref b95)])) _
    refine st104 _ ?_
    show Steps p.tables e below (T104.setTop (mkF m 23 #[.val (.int p0), .unset, .unset, .unset, .unset, .unset] [(.ref b95)])) _
    refine XS.dup X104.here hx rfl (hb hby at_23) rfl rfl ?_
    show Steps p.tables e below (T104.setTop (mkF m 24 #[.val (.int p0), .unset, .unset, .unset, .unset, .unset] [(.ref b95), (.ref b95)])) _
    refine XS.iconst X104.here hx rfl (hb hby at_24) ?_
    show Steps p.tables e below (T104.setTop (mkF m 25 #[.val (.int p0), .unset, .unset, .unset, .unset, .unset] [(.int (3 : Int32)), (.ref b95), (.ref b95)])) _
    refine st105 _ ?_
    show Steps p.tables e below (T105.setTop (mkF m 28 #[.val (.int p0), .unset, .unset, .unset, .unset, .unset] [(.ref w_4), (.int (3 : Int32)), (.ref b95), (.ref b95)])) _
    refine st107 _ ?_
    show Steps p.tables e below (T107.setTop (mkF m 29 #[.val (.int p0), .unset, .unset, .unset, .unset, .unset] [(.ref b95)])) _
    refine XS.dup X107.here hx rfl (hb hby at_29) rfl rfl ?_
    show Steps p.tables e below (T107.setTop (mkF m 30 #[.val (.int p0), .unset, .unset, .unset, .unset, .unset] [(.ref b95), (.ref b95)])) _
    refine XS.iconst X107.here hx rfl (hb hby at_30) ?_
    show Steps p.tables e below (T107.setTop (mkF m 31 #[.val (.int p0), .unset, .unset, .unset, .unset, .unset] [(.int (4 : Int32)), (.ref b95), (.ref b95)])) _
    refine st108 _ ?_
    show Steps p.tables e below (T108.setTop (mkF m 34 #[.val (.int p0), .unset, .unset, .unset, .unset, .unset] [(.ref w_5), (.int (4 : Int32)), (.ref b95), (.ref b95)])) _
    refine st110 _ ?_
    show Steps p.tables e below (T110.setTop (mkF m 35 #[.val (.int p0), .unset, .unset, .unset, .unset, .unset] [(.ref b95)])) _
    refine XS.dup X110.here hx rfl (hb hby at_35) rfl rfl ?_
    show Steps p.tables e below (T110.setTop (mkF m 36 #[.val (.int p0), .unset, .unset, .unset, .unset, .unset] [(.ref b95), (.ref b95)])) _
    refine XS.iconst X110.here hx rfl (hb hby at_36) ?_
    show Steps p.tables e below (T110.setTop (mkF m 37 #[.val (.int p0), .unset, .unset, .unset, .unset, .unset] [(.int (5 : Int32)), (.ref b95), (.ref b95)])) _
    refine st111 _ ?_
    show Steps p.tables e below (T111.setTop (mkF m 40 #[.val (.int p0), .unset, .unset, .unset, .unset, .unset] [(.ref w_6), (.int (5 : Int32)), (.ref b95), (.ref b95)])) _
    refine st113 _ ?_
    show Steps p.tables e below (T113.setTop (mkF m 41 #[.val (.int p0), .unset, .unset, .unset, .unset, .unset] [(.ref b95)])) _
    refine XS.dup X113.here hx rfl (hb hby at_41) rfl rfl ?_
    show Steps p.tables e below (T113.setTop (mkF m 42 #[.val (.int p0), .unset, .unset, .unset, .unset, .unset] [(.ref b95), (.ref b95)])) _
    refine XS.bipush X113.here hx rfl (hb hby at_42) ?_
    show Steps p.tables e below (T113.setTop (mkF m 44 #[.val (.int p0), .unset, .unset, .unset, .unset, .unset] [(.int (6 : Int32)), (.ref b95), (.ref b95)])) _
    refine st114 _ ?_
    show Steps p.tables e below (T114.setTop (mkF m 47 #[.val (.int p0), .unset, .unset, .unset, .unset, .unset] [(.ref w_7), (.int (6 : Int32)), (.ref b95), (.ref b95)])) _
    refine st116 _ ?_
    show Steps p.tables e below (T116.setTop (mkF m 48 #[.val (.int p0), .unset, .unset, .unset, .unset, .unset] [(.ref b95)])) _
    refine XS.dup X116.here hx rfl (hb hby at_48) rfl rfl ?_
    show Steps p.tables e below (T116.setTop (mkF m 49 #[.val (.int p0), .unset, .unset, .unset, .unset, .unset] [(.ref b95), (.ref b95)])) _
    refine XS.bipush X116.here hx rfl (hb hby at_49) ?_
    show Steps p.tables e below (T116.setTop (mkF m 51 #[.val (.int p0), .unset, .unset, .unset, .unset, .unset] [(.int (7 : Int32)), (.ref b95), (.ref b95)])) _
    refine st117 _ ?_
    show Steps p.tables e below (T117.setTop (mkF m 54 #[.val (.int p0), .unset, .unset, .unset, .unset, .unset] [(.ref w_8), (.int (7 : Int32)), (.ref b95), (.ref b95)])) _
    refine st119 _ ?_
    show Steps p.tables e below (T119.setTop (mkF m 55 #[.val (.int p0), .unset, .unset, .unset, .unset, .unset] [(.ref b95)])) _
    refine XS.dup X119.here hx rfl (hb hby at_55) rfl rfl ?_
    show Steps p.tables e below (T119.setTop (mkF m 56 #[.val (.int p0), .unset, .unset, .unset, .unset, .unset] [(.ref b95), (.ref b95)])) _
    refine XS.bipush X119.here hx rfl (hb hby at_56) ?_
    show Steps p.tables e below (T119.setTop (mkF m 58 #[.val (.int p0), .unset, .unset, .unset, .unset, .unset] [(.int (8 : Int32)), (.ref b95), (.ref b95)])) _
    refine st120 _ ?_
    show Steps p.tables e below (T120.setTop (mkF m 61 #[.val (.int p0), .unset, .unset, .unset, .unset, .unset] [(.ref w_9), (.int (8 : Int32)), (.ref b95), (.ref b95)])) _
    refine st122 _ ?_
    show Steps p.tables e below (T122.setTop (mkF m 62 #[.val (.int p0), .unset, .unset, .unset, .unset, .unset] [(.ref b95)])) _
    refine XS.dup X122.here hx rfl (hb hby at_62) rfl rfl ?_
    show Steps p.tables e below (T122.setTop (mkF m 63 #[.val (.int p0), .unset, .unset, .unset, .unset, .unset] [(.ref b95), (.ref b95)])) _
    refine XS.bipush X122.here hx rfl (hb hby at_63) ?_
    show Steps p.tables e below (T122.setTop (mkF m 65 #[.val (.int p0), .unset, .unset, .unset, .unset, .unset] [(.int (9 : Int32)), (.ref b95), (.ref b95)])) _
    refine st123 _ ?_
    show Steps p.tables e below (T123.setTop (mkF m 68 #[.val (.int p0), .unset, .unset, .unset, .unset, .unset] [(.ref w_10), (.int (9 : Int32)), (.ref b95), (.ref b95)])) _
    refine st125 _ ?_
    show Steps p.tables e below (T125.setTop (mkF m 69 #[.val (.int p0), .unset, .unset, .unset, .unset, .unset] [(.ref b95)])) _
    refine XS.dup X125.here hx rfl (hb hby at_69) rfl rfl ?_
    show Steps p.tables e below (T125.setTop (mkF m 70 #[.val (.int p0), .unset, .unset, .unset, .unset, .unset] [(.ref b95), (.ref b95)])) _
    refine XS.bipush X125.here hx rfl (hb hby at_70) ?_
    show Steps p.tables e below (T125.setTop (mkF m 72 #[.val (.int p0), .unset, .unset, .unset, .unset, .unset] [(.int (10 : Int32)), (.ref b95), (.ref b95)])) _
    refine st126 _ ?_
    show Steps p.tables e below (T126.setTop (mkF m 75 #[.val (.int p0), .unset, .unset, .unset, .unset, .unset] [(.ref w_11), (.int (10 : Int32)), (.ref b95), (.ref b95)])) _
    refine st128 _ ?_
    show Steps p.tables e below (T128.setTop (mkF m 76 #[.val (.int p0), .unset, .unset, .unset, .unset, .unset] [(.ref b95)])) _
    refine XS.dup X128.here hx rfl (hb hby at_76) rfl rfl ?_
    show Steps p.tables e below (T128.setTop (mkF m 77 #[.val (.int p0), .unset, .unset, .unset, .unset, .unset] [(.ref b95), (.ref b95)])) _
    refine XS.bipush X128.here hx rfl (hb hby at_77) ?_
    show Steps p.tables e below (T128.setTop (mkF m 79 #[.val (.int p0), .unset, .unset, .unset, .unset, .unset] [(.int (11 : Int32)), (.ref b95), (.ref b95)])) _
    refine st129 _ ?_
    show Steps p.tables e below (T129.setTop (mkF m 82 #[.val (.int p0), .unset, .unset, .unset, .unset, .unset] [(.ref w_12), (.int (11 : Int32)), (.ref b95), (.ref b95)])) _
    refine st131 _ ?_
    show Steps p.tables e below (T131.setTop (mkF m 83 #[.val (.int p0), .unset, .unset, .unset, .unset, .unset] [(.ref b95)])) _
    refine XS.dup X131.here hx rfl (hb hby at_83) rfl rfl ?_
    show Steps p.tables e below (T131.setTop (mkF m 84 #[.val (.int p0), .unset, .unset, .unset, .unset, .unset] [(.ref b95), (.ref b95)])) _
    refine XS.bipush X131.here hx rfl (hb hby at_84) ?_
    show Steps p.tables e below (T131.setTop (mkF m 86 #[.val (.int p0), .unset, .unset, .unset, .unset, .unset] [(.int (12 : Int32)), (.ref b95), (.ref b95)])) _
    refine st132 _ ?_
    show Steps p.tables e below (T132.setTop (mkF m 89 #[.val (.int p0), .unset, .unset, .unset, .unset, .unset] [(.ref w_13), (.int (12 : Int32)), (.ref b95), (.ref b95)])) _
    refine st134 _ ?_
    show Steps p.tables e below (T134.setTop (mkF m 90 #[.val (.int p0), .unset, .unset, .unset, .unset, .unset] [(.ref b95)])) _
    refine XS.dup X134.here hx rfl (hb hby at_90) rfl rfl ?_
    show Steps p.tables e below (T134.setTop (mkF m 91 #[.val (.int p0), .unset, .unset, .unset, .unset, .unset] [(.ref b95), (.ref b95)])) _
    refine XS.bipush X134.here hx rfl (hb hby at_91) ?_
    show Steps p.tables e below (T134.setTop (mkF m 93 #[.val (.int p0), .unset, .unset, .unset, .unset, .unset] [(.int (13 : Int32)), (.ref b95), (.ref b95)])) _
    refine st135 _ ?_
    show Steps p.tables e below (T135.setTop (mkF m 96 #[.val (.int p0), .unset, .unset, .unset, .unset, .unset] [(.ref w_14), (.int (13 : Int32)), (.ref b95), (.ref b95)])) _
    refine st137 _ ?_
    show Steps p.tables e below (T137.setTop (mkF m 97 #[.val (.int p0), .unset, .unset, .unset, .unset, .unset] [(.ref b95)])) _
    refine XS.dup X137.here hx rfl (hb hby at_97) rfl rfl ?_
    show Steps p.tables e below (T137.setTop (mkF m 98 #[.val (.int p0), .unset, .unset, .unset, .unset, .unset] [(.ref b95), (.ref b95)])) _
    refine XS.bipush X137.here hx rfl (hb hby at_98) ?_
    show Steps p.tables e below (T137.setTop (mkF m 100 #[.val (.int p0), .unset, .unset, .unset, .unset, .unset] [(.int (14 : Int32)), (.ref b95), (.ref b95)])) _
    refine st138 _ ?_
    show Steps p.tables e below (T138.setTop (mkF m 103 #[.val (.int p0), .unset, .unset, .unset, .unset, .unset] [(.ref w_15), (.int (14 : Int32)), (.ref b95), (.ref b95)])) _
    refine st140 _ ?_
    show Steps p.tables e below (T140.setTop (mkF m 104 #[.val (.int p0), .unset, .unset, .unset, .unset, .unset] [(.ref b95)])) _
    refine XS.dup X140.here hx rfl (hb hby at_104) rfl rfl ?_
    show Steps p.tables e below (T140.setTop (mkF m 105 #[.val (.int p0), .unset, .unset, .unset, .unset, .unset] [(.ref b95), (.ref b95)])) _
    refine XS.bipush X140.here hx rfl (hb hby at_105) ?_
    show Steps p.tables e below (T140.setTop (mkF m 107 #[.val (.int p0), .unset, .unset, .unset, .unset, .unset] [(.int (15 : Int32)), (.ref b95), (.ref b95)])) _
    refine st141 _ ?_
    show Steps p.tables e below (T141.setTop (mkF m 110 #[.val (.int p0), .unset, .unset, .unset, .unset, .unset] [(.ref w_16), (.int (15 : Int32)), (.ref b95), (.ref b95)])) _
    refine st143 _ ?_
    show Steps p.tables e below (T143.setTop (mkF m 111 #[.val (.int p0), .unset, .unset, .unset, .unset, .unset] [(.ref b95)])) _
    refine XS.astoreN X143.here hx rfl (hb hby at_111) rfl rfl (l' := #[.val (.int p0), .val (.ref b95), .unset, .unset, .unset, .unset]) rfl ?_
    show Steps p.tables e below (T143.setTop (mkF m 112 #[.val (.int p0), .val (.ref b95), .unset, .unset, .unset, .unset] [])) _
    refine XS.iloadN X143.here hx rfl (hb hby at_112) rfl ?_
    show Steps p.tables e below (T143.setTop (mkF m 113 #[.val (.int p0), .val (.ref b95), .unset, .unset, .unset, .unset] [(.int p0)])) _
    refine XS.bipush X143.here hx rfl (hb hby at_113) ?_
    show Steps p.tables e below (T143.setTop (mkF m 115 #[.val (.int p0), .val (.ref b95), .unset, .unset, .unset, .unset] [(.int (15 : Int32)), (.int p0)])) _
    refine XS.iand X143.here hx rfl (hb hby at_115) rfl ?_
    show Steps p.tables e below (T143.setTop (mkF m 116 #[.val (.int p0), .val (.ref b95), .unset, .unset, .unset, .unset] [(.int (p0 &&& (15 : Int32)))])) _
    refine XS.istoreN X143.here hx rfl (hb hby at_116) rfl (l' := #[.val (.int p0), .val (.ref b95), .val (.int (p0 &&& (15 : Int32))), .unset, .unset, .unset]) rfl ?_
    show Steps p.tables e below (T143.setTop (mkF m 117 #[.val (.int p0), .val (.ref b95), .val (.int (p0 &&& (15 : Int32))), .unset, .unset, .unset] [])) _
    refine XS.aloadN X143.here hx rfl (hb hby at_117) rfl rfl ?_
    show Steps p.tables e below (T143.setTop (mkF m 118 #[.val (.int p0), .val (.ref b95), .val (.int (p0 &&& (15 : Int32))), .unset, .unset, .unset] [(.ref b95)])) _
    refine XS.iloadN X143.here hx rfl (hb hby at_118) rfl ?_
    show Steps p.tables e below (T143.setTop (mkF m 119 #[.val (.int p0), .val (.ref b95), .val (.int (p0 &&& (15 : Int32))), .unset, .unset, .unset] [(.int (p0 &&& (15 : Int32))), (.ref b95)])) _
    exact kt
  by_cases hc145 : (p0 &&& (15 : Int32)) = (0 : Int32)
  · obtain ⟨cl146, Ar146, qa146, Sa146, Ma146, Ha146, Ga146⟩ := id V_b95_143
    have hin146 : ¬ ((p0 &&& (15 : Int32)) < 0 ∨ cl146.slots.size ≤ ((p0 &&& (15 : Int32))).toNatClampNeg) := by rw [hc145]; exact inb_of Sa146 ⟨by decide, by decide⟩
    have hat146 : cl146.slots[((p0 &&& (15 : Int32))).toNatClampNeg]? = some (.ref w_1) := Has.at Ha146 hin146 (by rw [hc145]; rfl)
    obtain ⟨cq153, kq153, q153a, q153b, q153c⟩ := isOf hZ e143 (E_1.ext O143.2)
    obtain ⟨_, _, ⟨T153, L153, k153, n153⟩, -, X153, ⟨Lc153, hQ153, l153, y153, z153⟩, st153⟩ := X143.virtualBack hx (y := Y0) (z := Y0) hown (mvT hZ (hw _ (tk 36 rfl))) (mvT hZ (hw _ (tk 37 rfl))) (notFace_of_selects (args := #[]) (mvT hZ (hw _ (tk 39 rfl)))) (mvT hZ (hw _ (tk 39 rfl))) (mvT hZ (hw _ (tk 38 rfl))) (by decide) (backOf (W := 0) (rm1 l Z a0 hw [] w_1 w_2 w_3 w_4 w_5 w_6 w_7 w_8 w_9 w_10 w_11 w_12 w_13 w_14 w_15 w_16 hS0 w_1 h143 n0 O143) hZ (hw _ (tk 40 rfl)) (hw _ (tk 3 rfl)) (by decide) (by decide)) q153a q153c (g := (mkF m 141 #[.val (.int p0), .val (.ref b95), .val (.int (p0 &&& (15 : Int32))), .val (.ref w_1), .val (.int (0 : Int32)), .unset] [(.ref w_1)])) rfl (by rw [hml]; rfl) (Steps.refl _) (argsL := []) (rest := []) (lenOf pd_0 rfl) rfl (by show 2 * 0 + _ ≤ _; exact Nat.le_of_eq rfl) (hb hby at_141) (fun _ _ => ⟨rfl, e143, (by decide : 1 + 0 ≤ _), (by decide : 16 + 0 ≤ _)⟩)
    dsimp only [Pt.U, Pt.locs, Pt.cells, Pt.slots] at X153 l153 y153 z153 st153 hQ153
    subst l153 y153 z153
    obtain ⟨rv153, N153q, e153⟩ := hQ153
    rw [show sp1 w_9 w_10 w_1 = (0 : Int32) from by unfold sp1; rw [if_neg (Fld.ne F_1_ordinal F_9_ordinal (by decide)), if_neg (Fld.ne F_1_ordinal F_10_ordinal (by decide))]] at rv153
    subst rv153
    have N153 := Fr.app N143 N153q
    obtain ⟨fs, hr, hrun, hended, hW, hsame⟩ := X153.leave (v := some (.int (1 : Int32))) (fun h => by rw [Bd.returns] at h; cases h)
    refine ⟨_, _, pre144 _ ?_, hrun, hended, _, _, rfl, ?_, ⟨_, rfl⟩, hW, hsame.mono (by decide) (by decide)⟩
    · show Steps p.tables e below (T143.setTop (mkF m 119 #[.val (.int p0), .val (.ref b95), .val (.int (p0 &&& (15 : Int32))), .unset, .unset, .unset] [(.int (p0 &&& (15 : Int32))), (.ref b95)])) _
      refine X143.aaload hx (j := (p0 &&& (15 : Int32))) (v := (.ref w_1)) (by rw [e143]; exact Ar146.1) (State.isArrayOf_alike hZ.alike Ar146.2.1) rfl Ar146.2.2 hin146 hat146 (g := (mkF m 119 #[.val (.int p0), .val (.ref b95), .val (.int (p0 &&& (15 : Int32))), .unset, .unset, .unset] [(.int (p0 &&& (15 : Int32))), (.ref b95)])) rfl rfl (hb hby at_119) _ ?_
      show Steps p.tables e below (T143.setTop (mkF m 120 #[.val (.int p0), .val (.ref b95), .val (.int (p0 &&& (15 : Int32))), .unset, .unset, .unset] [(.ref w_1)])) _
      refine XS.astoreN X143.here hx rfl (hb hby at_120) rfl rfl (l' := #[.val (.int p0), .val (.ref b95), .val (.int (p0 &&& (15 : Int32))), .val (.ref w_1), .unset, .unset]) rfl ?_
      show Steps p.tables e below (T143.setTop (mkF m 121 #[.val (.int p0), .val (.ref b95), .val (.int (p0 &&& (15 : Int32))), .val (.ref w_1), .unset, .unset] [])) _
      refine XS.iloadN X143.here hx rfl (hb hby at_121) rfl ?_
      show Steps p.tables e below (T143.setTop (mkF m 122 #[.val (.int p0), .val (.ref b95), .val (.int (p0 &&& (15 : Int32))), .val (.ref w_1), .unset, .unset] [(.int (p0 &&& (15 : Int32)))])) _
      refine XS.bipush X143.here hx rfl (hb hby at_122) ?_
      show Steps p.tables e below (T143.setTop (mkF m 124 #[.val (.int p0), .val (.ref b95), .val (.int (p0 &&& (15 : Int32))), .val (.ref w_1), .unset, .unset] [(.int (8 : Int32)), (.int (p0 &&& (15 : Int32)))])) _
      refine XS.icmpNo X143.here hx rfl (hb hby at_124) rfl (feq (by rw [hc145] <;> decide : ¬ ((p0 &&& (15 : Int32)) = (8 : Int32)))).1 ?_
      show Steps p.tables e below (T143.setTop (mkF m 127 #[.val (.int p0), .val (.ref b95), .val (.int (p0 &&& (15 : Int32))), .val (.ref w_1), .unset, .unset] [])) _
      refine XS.iloadN X143.here hx rfl (hb hby at_127) rfl ?_
      show Steps p.tables e below (T143.setTop (mkF m 128 #[.val (.int p0), .val (.ref b95), .val (.int (p0 &&& (15 : Int32))), .val (.ref w_1), .unset, .unset] [(.int (p0 &&& (15 : Int32)))])) _
      refine XS.bipush X143.here hx rfl (hb hby at_128) ?_
      show Steps p.tables e below (T143.setTop (mkF m 130 #[.val (.int p0), .val (.ref b95), .val (.int (p0 &&& (15 : Int32))), .val (.ref w_1), .unset, .unset] [(.int (9 : Int32)), (.int (p0 &&& (15 : Int32)))])) _
      refine XS.icmpYes X143.here hx rfl (pc0 := 130) (pc' := 137) rfl (hb hby at_130) rfl (feq (by rw [hc145] <;> decide : ¬ ((p0 &&& (15 : Int32)) = (9 : Int32)))).2 (by decide) (by decide) ?_
      show Steps p.tables e below (T143.setTop (mkF m 137 #[.val (.int p0), .val (.ref b95), .val (.int (p0 &&& (15 : Int32))), .val (.ref w_1), .unset, .unset] [])) _
      refine XS.iconst X143.here hx rfl (hb hby at_137) ?_
      show Steps p.tables e below (T143.setTop (mkF m 138 #[.val (.int p0), .val (.ref b95), .val (.int (p0 &&& (15 : Int32))), .val (.ref w_1), .unset, .unset] [(.int (0 : Int32))])) _
      refine XS.istore X143.here hx rfl (hb hby at_138) rfl (l' := #[.val (.int p0), .val (.ref b95), .val (.int (p0 &&& (15 : Int32))), .val (.ref w_1), .val (.int (0 : Int32)), .unset]) rfl ?_
      show Steps p.tables e below (T143.setTop (mkF m 140 #[.val (.int p0), .val (.ref b95), .val (.int (p0 &&& (15 : Int32))), .val (.ref w_1), .val (.int (0 : Int32)), .unset] [])) _
      refine XS.aloadN X143.here hx rfl (hb hby at_140) rfl rfl ?_
      show Steps p.tables e below (T143.setTop (mkF m 141 #[.val (.int p0), .val (.ref b95), .val (.int (p0 &&& (15 : Int32))), .val (.ref w_1), .val (.int (0 : Int32)), .unset] [(.ref w_1)])) _
      refine st153.trans ?_
      show Steps p.tables e below (T153.setTop (mkF m 144 #[.val (.int p0), .val (.ref b95), .val (.int (p0 &&& (15 : Int32))), .val (.ref w_1), .val (.int (0 : Int32)), .unset] [(.int (0 : Int32))])) _
      refine XS.istore X153.here hx rfl (hb hby at_144) rfl (l' := #[.val (.int p0), .val (.ref b95), .val (.int (p0 &&& (15 : Int32))), .val (.ref w_1), .val (.int (0 : Int32)), .val (.int (0 : Int32))]) rfl ?_
      show Steps p.tables e below (T153.setTop (mkF m 146 #[.val (.int p0), .val (.ref b95), .val (.int (p0 &&& (15 : Int32))), .val (.ref w_1), .val (.int (0 : Int32)), .val (.int (0 : Int32))] [])) _
      refine XS.iload X153.here hx rfl (hb hby at_146) rfl ?_
      show Steps p.tables e below (T153.setTop (mkF m 148 #[.val (.int p0), .val (.ref b95), .val (.int (p0 &&& (15 : Int32))), .val (.ref w_1), .val (.int (0 : Int32)), .val (.int (0 : Int32))] [(.int (0 : Int32))])) _
      refine XS.iload X153.here hx rfl (hb hby at_148) rfl ?_
      show Steps p.tables e below (T153.setTop (mkF m 150 #[.val (.int p0), .val (.ref b95), .val (.int (p0 &&& (15 : Int32))), .val (.ref w_1), .val (.int (0 : Int32)), .val (.int (0 : Int32))] [(.int (0 : Int32)), (.int (0 : Int32))])) _
      refine XS.icmpNo X153.here hx rfl (hb hby at_150) rfl (teq (by decide : ((0 : Int32) = (0 : Int32)))).2 ?_
      show Steps p.tables e below (T153.setTop (mkF m 153 #[.val (.int p0), .val (.ref b95), .val (.int (p0 &&& (15 : Int32))), .val (.ref w_1), .val (.int (0 : Int32)), .val (.int (0 : Int32))] [])) _
      refine XS.iload X153.here hx rfl (hb hby at_153) rfl ?_
      show Steps p.tables e below (T153.setTop (mkF m 155 #[.val (.int p0), .val (.ref b95), .val (.int (p0 &&& (15 : Int32))), .val (.ref w_1), .val (.int (0 : Int32)), .val (.int (0 : Int32))] [(.int (0 : Int32))])) _
      refine XS.ifYes X153.here hx rfl (pc0 := 155) (pc' := 165) rfl (hb hby at_155) rfl ((if0 _ _).trans (teq (by decide : ((0 : Int32) = (0 : Int32)))).1) (by decide) (by decide) ?_
      show Steps p.tables e below (T153.setTop (mkF m 165 #[.val (.int p0), .val (.ref b95), .val (.int (p0 &&& (15 : Int32))), .val (.ref w_1), .val (.int (0 : Int32)), .val (.int (0 : Int32))] [])) _
      refine XS.iconst X153.here hx rfl (hb hby at_165) ?_
      show Steps p.tables e below (T153.setTop (mkF m 166 #[.val (.int p0), .val (.ref b95), .val (.int (p0 &&& (15 : Int32))), .val (.ref w_1), .val (.int (0 : Int32)), .val (.int (0 : Int32))] [(.int (1 : Int32))])) _
      refine XS.goto X153.here hx rfl (pc0 := 166) (pc' := 170) rfl (hb hby at_166) (by decide) (by decide) ?_
      show Steps p.tables e below (T153.setTop (mkF m 170 #[.val (.int p0), .val (.ref b95), .val (.int (p0 &&& (15 : Int32))), .val (.ref w_1), .val (.int (0 : Int32)), .val (.int (0 : Int32))] [(.int (1 : Int32))])) _
      exact retN X153 hx (t := .boolean) Bd.returns (by simp) (hb hby at_170) hr
    · show Q0 Z w_1 w_2 w_3 w_4 w_5 w_6 w_7 w_8 w_9 w_10 w_11 w_12 w_13 w_14 w_15 w_16 p0 h0 n0 _ T153.heap _
      rw [e153]
      exact ⟨by unfold sp0; rw [if_pos hc145], N153, trivial⟩
  · by_cases hc154 : (p0 &&& (15 : Int32)) = (1 : Int32)
    · obtain ⟨cl155, Ar155, qa155, Sa155, Ma155, Ha155, Ga155⟩ := id V_b95_143
      have hin155 : ¬ ((p0 &&& (15 : Int32)) < 0 ∨ cl155.slots.size ≤ ((p0 &&& (15 : Int32))).toNatClampNeg) := by rw [hc154]; exact inb_of Sa155 ⟨by decide, by decide⟩
      have hat155 : cl155.slots[((p0 &&& (15 : Int32))).toNatClampNeg]? = some (.ref w_2) := Has.at Ha155 hin155 (by rw [hc154]; rfl)
      obtain ⟨cq156, kq156, q156a, q156b, q156c⟩ := isOf hZ e143 (E_2.ext O143.2)
      obtain ⟨_, _, ⟨T156, L156, k156, n156⟩, -, X156, ⟨Lc156, hQ156, l156, y156, z156⟩, st156⟩ := X143.virtualBack hx (y := Y0) (z := Y0) hown (mvT hZ (hw _ (tk 36 rfl))) (mvT hZ (hw _ (tk 37 rfl))) (notFace_of_selects (args := #[]) (mvT hZ (hw _ (tk 39 rfl)))) (mvT hZ (hw _ (tk 39 rfl))) (mvT hZ (hw _ (tk 38 rfl))) (by decide) (backOf (W := 0) (rm1 l Z a0 hw [] w_1 w_2 w_3 w_4 w_5 w_6 w_7 w_8 w_9 w_10 w_11 w_12 w_13 w_14 w_15 w_16 hS0 w_2 h143 n0 O143) hZ (hw _ (tk 40 rfl)) (hw _ (tk 3 rfl)) (by decide) (by decide)) q156a q156c (g := (mkF m 141 #[.val (.int p0), .val (.ref b95), .val (.int (p0 &&& (15 : Int32))), .val (.ref w_2), .val (.int (0 : Int32)), .unset] [(.ref w_2)])) rfl (by rw [hml]; rfl) (Steps.refl _) (argsL := []) (rest := []) (lenOf pd_0 rfl) rfl (by show 2 * 0 + _ ≤ _; exact Nat.le_of_eq rfl) (hb hby at_141) (fun _ _ => ⟨rfl, e143, (by decide : 1 + 0 ≤ _), (by decide : 16 + 0 ≤ _)⟩)
      dsimp only [Pt.U, Pt.locs, Pt.cells, Pt.slots] at X156 l156 y156 z156 st156 hQ156
      subst l156 y156 z156
      obtain ⟨rv156, N156q, e156⟩ := hQ156
      rw [show sp1 w_9 w_10 w_2 = (0 : Int32) from by unfold sp1; rw [if_neg (Fld.ne F_2_ordinal F_9_ordinal (by decide)), if_neg (Fld.ne F_2_ordinal F_10_ordinal (by decide))]] at rv156
      subst rv156
      have N156 := Fr.app N143 N156q
      obtain ⟨fs, hr, hrun, hended, hW, hsame⟩ := X156.leave (v := some (.int (1 : Int32))) (fun h => by rw [Bd.returns] at h; cases h)
      refine ⟨_, _, pre144 _ ?_, hrun, hended, _, _, rfl, ?_, ⟨_, rfl⟩, hW, hsame.mono (by decide) (by decide)⟩
      · show Steps p.tables e below (T143.setTop (mkF m 119 #[.val (.int p0), .val (.ref b95), .val (.int (p0 &&& (15 : Int32))), .unset, .unset, .unset] [(.int (p0 &&& (15 : Int32))), (.ref b95)])) _
        refine X143.aaload hx (j := (p0 &&& (15 : Int32))) (v := (.ref w_2)) (by rw [e143]; exact Ar155.1) (State.isArrayOf_alike hZ.alike Ar155.2.1) rfl Ar155.2.2 hin155 hat155 (g := (mkF m 119 #[.val (.int p0), .val (.ref b95), .val (.int (p0 &&& (15 : Int32))), .unset, .unset, .unset] [(.int (p0 &&& (15 : Int32))), (.ref b95)])) rfl rfl (hb hby at_119) _ ?_
        show Steps p.tables e below (T143.setTop (mkF m 120 #[.val (.int p0), .val (.ref b95), .val (.int (p0 &&& (15 : Int32))), .unset, .unset, .unset] [(.ref w_2)])) _
        refine XS.astoreN X143.here hx rfl (hb hby at_120) rfl rfl (l' := #[.val (.int p0), .val (.ref b95), .val (.int (p0 &&& (15 : Int32))), .val (.ref w_2), .unset, .unset]) rfl ?_
        show Steps p.tables e below (T143.setTop (mkF m 121 #[.val (.int p0), .val (.ref b95), .val (.int (p0 &&& (15 : Int32))), .val (.ref w_2), .unset, .unset] [])) _
        refine XS.iloadN X143.here hx rfl (hb hby at_121) rfl ?_
        show Steps p.tables e below (T143.setTop (mkF m 122 #[.val (.int p0), .val (.ref b95), .val (.int (p0 &&& (15 : Int32))), .val (.ref w_2), .unset, .unset] [(.int (p0 &&& (15 : Int32)))])) _
        refine XS.bipush X143.here hx rfl (hb hby at_122) ?_
        show Steps p.tables e below (T143.setTop (mkF m 124 #[.val (.int p0), .val (.ref b95), .val (.int (p0 &&& (15 : Int32))), .val (.ref w_2), .unset, .unset] [(.int (8 : Int32)), (.int (p0 &&& (15 : Int32)))])) _
        refine XS.icmpNo X143.here hx rfl (hb hby at_124) rfl (feq (by rw [hc154] <;> decide : ¬ ((p0 &&& (15 : Int32)) = (8 : Int32)))).1 ?_
        show Steps p.tables e below (T143.setTop (mkF m 127 #[.val (.int p0), .val (.ref b95), .val (.int (p0 &&& (15 : Int32))), .val (.ref w_2), .unset, .unset] [])) _
        refine XS.iloadN X143.here hx rfl (hb hby at_127) rfl ?_
        show Steps p.tables e below (T143.setTop (mkF m 128 #[.val (.int p0), .val (.ref b95), .val (.int (p0 &&& (15 : Int32))), .val (.ref w_2), .unset, .unset] [(.int (p0 &&& (15 : Int32)))])) _
        refine XS.bipush X143.here hx rfl (hb hby at_128) ?_
        show Steps p.tables e below (T143.setTop (mkF m 130 #[.val (.int p0), .val (.ref b95), .val (.int (p0 &&& (15 : Int32))), .val (.ref w_2), .unset, .unset] [(.int (9 : Int32)), (.int (p0 &&& (15 : Int32)))])) _
        refine XS.icmpYes X143.here hx rfl (pc0 := 130) (pc' := 137) rfl (hb hby at_130) rfl (feq (by rw [hc154] <;> decide : ¬ ((p0 &&& (15 : Int32)) = (9 : Int32)))).2 (by decide) (by decide) ?_
        show Steps p.tables e below (T143.setTop (mkF m 137 #[.val (.int p0), .val (.ref b95), .val (.int (p0 &&& (15 : Int32))), .val (.ref w_2), .unset, .unset] [])) _
        refine XS.iconst X143.here hx rfl (hb hby at_137) ?_
        show Steps p.tables e below (T143.setTop (mkF m 138 #[.val (.int p0), .val (.ref b95), .val (.int (p0 &&& (15 : Int32))), .val (.ref w_2), .unset, .unset] [(.int (0 : Int32))])) _
        refine XS.istore X143.here hx rfl (hb hby at_138) rfl (l' := #[.val (.int p0), .val (.ref b95), .val (.int (p0 &&& (15 : Int32))), .val (.ref w_2), .val (.int (0 : Int32)), .unset]) rfl ?_
        show Steps p.tables e below (T143.setTop (mkF m 140 #[.val (.int p0), .val (.ref b95), .val (.int (p0 &&& (15 : Int32))), .val (.ref w_2), .val (.int (0 : Int32)), .unset] [])) _
        refine XS.aloadN X143.here hx rfl (hb hby at_140) rfl rfl ?_
        show Steps p.tables e below (T143.setTop (mkF m 141 #[.val (.int p0), .val (.ref b95), .val (.int (p0 &&& (15 : Int32))), .val (.ref w_2), .val (.int (0 : Int32)), .unset] [(.ref w_2)])) _
        refine st156.trans ?_
        show Steps p.tables e below (T156.setTop (mkF m 144 #[.val (.int p0), .val (.ref b95), .val (.int (p0 &&& (15 : Int32))), .val (.ref w_2), .val (.int (0 : Int32)), .unset] [(.int (0 : Int32))])) _
        refine XS.istore X156.here hx rfl (hb hby at_144) rfl (l' := #[.val (.int p0), .val (.ref b95), .val (.int (p0 &&& (15 : Int32))), .val (.ref w_2), .val (.int (0 : Int32)), .val (.int (0 : Int32))]) rfl ?_
        show Steps p.tables e below (T156.setTop (mkF m 146 #[.val (.int p0), .val (.ref b95), .val (.int (p0 &&& (15 : Int32))), .val (.ref w_2), .val (.int (0 : Int32)), .val (.int (0 : Int32))] [])) _
        refine XS.iload X156.here hx rfl (hb hby at_146) rfl ?_
        show Steps p.tables e below (T156.setTop (mkF m 148 #[.val (.int p0), .val (.ref b95), .val (.int (p0 &&& (15 : Int32))), .val (.ref w_2), .val (.int (0 : Int32)), .val (.int (0 : Int32))] [(.int (0 : Int32))])) _
        refine XS.iload X156.here hx rfl (hb hby at_148) rfl ?_
        show Steps p.tables e below (T156.setTop (mkF m 150 #[.val (.int p0), .val (.ref b95), .val (.int (p0 &&& (15 : Int32))), .val (.ref w_2), .val (.int (0 : Int32)), .val (.int (0 : Int32))] [(.int (0 : Int32)), (.int (0 : Int32))])) _
        refine XS.icmpNo X156.here hx rfl (hb hby at_150) rfl (teq (by decide : ((0 : Int32) = (0 : Int32)))).2 ?_
        show Steps p.tables e below (T156.setTop (mkF m 153 #[.val (.int p0), .val (.ref b95), .val (.int (p0 &&& (15 : Int32))), .val (.ref w_2), .val (.int (0 : Int32)), .val (.int (0 : Int32))] [])) _
        refine XS.iload X156.here hx rfl (hb hby at_153) rfl ?_
        show Steps p.tables e below (T156.setTop (mkF m 155 #[.val (.int p0), .val (.ref b95), .val (.int (p0 &&& (15 : Int32))), .val (.ref w_2), .val (.int (0 : Int32)), .val (.int (0 : Int32))] [(.int (0 : Int32))])) _
        refine XS.ifYes X156.here hx rfl (pc0 := 155) (pc' := 165) rfl (hb hby at_155) rfl ((if0 _ _).trans (teq (by decide : ((0 : Int32) = (0 : Int32)))).1) (by decide) (by decide) ?_
        show Steps p.tables e below (T156.setTop (mkF m 165 #[.val (.int p0), .val (.ref b95), .val (.int (p0 &&& (15 : Int32))), .val (.ref w_2), .val (.int (0 : Int32)), .val (.int (0 : Int32))] [])) _
        refine XS.iconst X156.here hx rfl (hb hby at_165) ?_
        show Steps p.tables e below (T156.setTop (mkF m 166 #[.val (.int p0), .val (.ref b95), .val (.int (p0 &&& (15 : Int32))), .val (.ref w_2), .val (.int (0 : Int32)), .val (.int (0 : Int32))] [(.int (1 : Int32))])) _
        refine XS.goto X156.here hx rfl (pc0 := 166) (pc' := 170) rfl (hb hby at_166) (by decide) (by decide) ?_
        show Steps p.tables e below (T156.setTop (mkF m 170 #[.val (.int p0), .val (.ref b95), .val (.int (p0 &&& (15 : Int32))), .val (.ref w_2), .val (.int (0 : Int32)), .val (.int (0 : Int32))] [(.int (1 : Int32))])) _
        exact retN X156 hx (t := .boolean) Bd.returns (by simp) (hb hby at_170) hr
      · show Q0 Z w_1 w_2 w_3 w_4 w_5 w_6 w_7 w_8 w_9 w_10 w_11 w_12 w_13 w_14 w_15 w_16 p0 h0 n0 _ T156.heap _
        rw [e156]
        exact ⟨by unfold sp0; rw [if_neg hc145, if_pos hc154], N156, trivial⟩
    · by_cases hc157 : (p0 &&& (15 : Int32)) = (2 : Int32)
      · obtain ⟨cl158, Ar158, qa158, Sa158, Ma158, Ha158, Ga158⟩ := id V_b95_143
        have hin158 : ¬ ((p0 &&& (15 : Int32)) < 0 ∨ cl158.slots.size ≤ ((p0 &&& (15 : Int32))).toNatClampNeg) := by rw [hc157]; exact inb_of Sa158 ⟨by decide, by decide⟩
        have hat158 : cl158.slots[((p0 &&& (15 : Int32))).toNatClampNeg]? = some (.ref w_3) := Has.at Ha158 hin158 (by rw [hc157]; rfl)
        obtain ⟨cq159, kq159, q159a, q159b, q159c⟩ := isOf hZ e143 (E_3.ext O143.2)
        obtain ⟨_, _, ⟨T159, L159, k159, n159⟩, -, X159, ⟨Lc159, hQ159, l159, y159, z159⟩, st159⟩ := X143.virtualBack hx (y := Y0) (z := Y0) hown (mvT hZ (hw _ (tk 36 rfl))) (mvT hZ (hw _ (tk 37 rfl))) (notFace_of_selects (args := #[]) (mvT hZ (hw _ (tk 39 rfl)))) (mvT hZ (hw _ (tk 39 rfl))) (mvT hZ (hw _ (tk 38 rfl))) (by decide) (backOf (W := 0) (rm1 l Z a0 hw [] w_1 w_2 w_3 w_4 w_5 w_6 w_7 w_8 w_9 w_10 w_11 w_12 w_13 w_14 w_15 w_16 hS0 w_3 h143 n0 O143) hZ (hw _ (tk 40 rfl)) (hw _ (tk 3 rfl)) (by decide) (by decide)) q159a q159c (g := (mkF m 141 #[.val (.int p0), .val (.ref b95), .val (.int (p0 &&& (15 : Int32))), .val (.ref w_3), .val (.int (0 : Int32)), .unset] [(.ref w_3)])) rfl (by rw [hml]; rfl) (Steps.refl _) (argsL := []) (rest := []) (lenOf pd_0 rfl) rfl (by show 2 * 0 + _ ≤ _; exact Nat.le_of_eq rfl) (hb hby at_141) (fun _ _ => ⟨rfl, e143, (by decide : 1 + 0 ≤ _), (by decide : 16 + 0 ≤ _)⟩)
        dsimp only [Pt.U, Pt.locs, Pt.cells, Pt.slots] at X159 l159 y159 z159 st159 hQ159
        subst l159 y159 z159
        obtain ⟨rv159, N159q, e159⟩ := hQ159
        rw [show sp1 w_9 w_10 w_3 = (0 : Int32) from by unfold sp1; rw [if_neg (Fld.ne F_3_ordinal F_9_ordinal (by decide)), if_neg (Fld.ne F_3_ordinal F_10_ordinal (by decide))]] at rv159
        subst rv159
        have N159 := Fr.app N143 N159q
        obtain ⟨fs, hr, hrun, hended, hW, hsame⟩ := X159.leave (v := some (.int (1 : Int32))) (fun h => by rw [Bd.returns] at h; cases h)
        refine ⟨_, _, pre144 _ ?_, hrun, hended, _, _, rfl, ?_, ⟨_, rfl⟩, hW, hsame.mono (by decide) (by decide)⟩
        · show Steps p.tables e below (T143.setTop (mkF m 119 #[.val (.int p0), .val (.ref b95), .val (.int (p0 &&& (15 : Int32))), .unset, .unset, .unset] [(.int (p0 &&& (15 : Int32))), (.ref b95)])) _
          refine X143.aaload hx (j := (p0 &&& (15 : Int32))) (v := (.ref w_3)) (by rw [e143]; exact Ar158.1) (State.isArrayOf_alike hZ.alike Ar158.2.1) rfl Ar158.2.2 hin158 hat158 (g := (mkF m 119 #[.val (.int p0), .val (.ref b95), .val (.int (p0 &&& (15 : Int32))), .unset, .unset, .unset] [(.int (p0 &&& (15 : Int32))), (.ref b95)])) rfl rfl (hb hby at_119) _ ?_
          show Steps p.tables e below (T143.setTop (mkF m 120 #[.val (.int p0), .val (.ref b95), .val (.int (p0 &&& (15 : Int32))), .unset, .unset, .unset] [(.ref w_3)])) _
          refine XS.astoreN X143.here hx rfl (hb hby at_120) rfl rfl (l' := #[.val (.int p0), .val (.ref b95), .val (.int (p0 &&& (15 : Int32))), .val (.ref w_3), .unset, .unset]) rfl ?_
          show Steps p.tables e below (T143.setTop (mkF m 121 #[.val (.int p0), .val (.ref b95), .val (.int (p0 &&& (15 : Int32))), .val (.ref w_3), .unset, .unset] [])) _
          refine XS.iloadN X143.here hx rfl (hb hby at_121) rfl ?_
          show Steps p.tables e below (T143.setTop (mkF m 122 #[.val (.int p0), .val (.ref b95), .val (.int (p0 &&& (15 : Int32))), .val (.ref w_3), .unset, .unset] [(.int (p0 &&& (15 : Int32)))])) _
          refine XS.bipush X143.here hx rfl (hb hby at_122) ?_
          show Steps p.tables e below (T143.setTop (mkF m 124 #[.val (.int p0), .val (.ref b95), .val (.int (p0 &&& (15 : Int32))), .val (.ref w_3), .unset, .unset] [(.int (8 : Int32)), (.int (p0 &&& (15 : Int32)))])) _
          refine XS.icmpNo X143.here hx rfl (hb hby at_124) rfl (feq (by rw [hc157] <;> decide : ¬ ((p0 &&& (15 : Int32)) = (8 : Int32)))).1 ?_
          show Steps p.tables e below (T143.setTop (mkF m 127 #[.val (.int p0), .val (.ref b95), .val (.int (p0 &&& (15 : Int32))), .val (.ref w_3), .unset, .unset] [])) _
          refine XS.iloadN X143.here hx rfl (hb hby at_127) rfl ?_
          show Steps p.tables e below (T143.setTop (mkF m 128 #[.val (.int p0), .val (.ref b95), .val (.int (p0 &&& (15 : Int32))), .val (.ref w_3), .unset, .unset] [(.int (p0 &&& (15 : Int32)))])) _
          refine XS.bipush X143.here hx rfl (hb hby at_128) ?_
          show Steps p.tables e below (T143.setTop (mkF m 130 #[.val (.int p0), .val (.ref b95), .val (.int (p0 &&& (15 : Int32))), .val (.ref w_3), .unset, .unset] [(.int (9 : Int32)), (.int (p0 &&& (15 : Int32)))])) _
          refine XS.icmpYes X143.here hx rfl (pc0 := 130) (pc' := 137) rfl (hb hby at_130) rfl (feq (by rw [hc157] <;> decide : ¬ ((p0 &&& (15 : Int32)) = (9 : Int32)))).2 (by decide) (by decide) ?_
          show Steps p.tables e below (T143.setTop (mkF m 137 #[.val (.int p0), .val (.ref b95), .val (.int (p0 &&& (15 : Int32))), .val (.ref w_3), .unset, .unset] [])) _
          refine XS.iconst X143.here hx rfl (hb hby at_137) ?_
          show Steps p.tables e below (T143.setTop (mkF m 138 #[.val (.int p0), .val (.ref b95), .val (.int (p0 &&& (15 : Int32))), .val (.ref w_3), .unset, .unset] [(.int (0 : Int32))])) _
          refine XS.istore X143.here hx rfl (hb hby at_138) rfl (l' := #[.val (.int p0), .val (.ref b95), .val (.int (p0 &&& (15 : Int32))), .val (.ref w_3), .val (.int (0 : Int32)), .unset]) rfl ?_
          show Steps p.tables e below (T143.setTop (mkF m 140 #[.val (.int p0), .val (.ref b95), .val (.int (p0 &&& (15 : Int32))), .val (.ref w_3), .val (.int (0 : Int32)), .unset] [])) _
          refine XS.aloadN X143.here hx rfl (hb hby at_140) rfl rfl ?_
          show Steps p.tables e below (T143.setTop (mkF m 141 #[.val (.int p0), .val (.ref b95), .val (.int (p0 &&& (15 : Int32))), .val (.ref w_3), .val (.int (0 : Int32)), .unset] [(.ref w_3)])) _
          refine st159.trans ?_
          show Steps p.tables e below (T159.setTop (mkF m 144 #[.val (.int p0), .val (.ref b95), .val (.int (p0 &&& (15 : Int32))), .val (.ref w_3), .val (.int (0 : Int32)), .unset] [(.int (0 : Int32))])) _
          refine XS.istore X159.here hx rfl (hb hby at_144) rfl (l' := #[.val (.int p0), .val (.ref b95), .val (.int (p0 &&& (15 : Int32))), .val (.ref w_3), .val (.int (0 : Int32)), .val (.int (0 : Int32))]) rfl ?_
          show Steps p.tables e below (T159.setTop (mkF m 146 #[.val (.int p0), .val (.ref b95), .val (.int (p0 &&& (15 : Int32))), .val (.ref w_3), .val (.int (0 : Int32)), .val (.int (0 : Int32))] [])) _
          refine XS.iload X159.here hx rfl (hb hby at_146) rfl ?_
          show Steps p.tables e below (T159.setTop (mkF m 148 #[.val (.int p0), .val (.ref b95), .val (.int (p0 &&& (15 : Int32))), .val (.ref w_3), .val (.int (0 : Int32)), .val (.int (0 : Int32))] [(.int (0 : Int32))])) _
          refine XS.iload X159.here hx rfl (hb hby at_148) rfl ?_
          show Steps p.tables e below (T159.setTop (mkF m 150 #[.val (.int p0), .val (.ref b95), .val (.int (p0 &&& (15 : Int32))), .val (.ref w_3), .val (.int (0 : Int32)), .val (.int (0 : Int32))] [(.int (0 : Int32)), (.int (0 : Int32))])) _
          refine XS.icmpNo X159.here hx rfl (hb hby at_150) rfl (teq (by decide : ((0 : Int32) = (0 : Int32)))).2 ?_
          show Steps p.tables e below (T159.setTop (mkF m 153 #[.val (.int p0), .val (.ref b95), .val (.int (p0 &&& (15 : Int32))), .val (.ref w_3), .val (.int (0 : Int32)), .val (.int (0 : Int32))] [])) _
          refine XS.iload X159.here hx rfl (hb hby at_153) rfl ?_
          show Steps p.tables e below (T159.setTop (mkF m 155 #[.val (.int p0), .val (.ref b95), .val (.int (p0 &&& (15 : Int32))), .val (.ref w_3), .val (.int (0 : Int32)), .val (.int (0 : Int32))] [(.int (0 : Int32))])) _
          refine XS.ifYes X159.here hx rfl (pc0 := 155) (pc' := 165) rfl (hb hby at_155) rfl ((if0 _ _).trans (teq (by decide : ((0 : Int32) = (0 : Int32)))).1) (by decide) (by decide) ?_
          show Steps p.tables e below (T159.setTop (mkF m 165 #[.val (.int p0), .val (.ref b95), .val (.int (p0 &&& (15 : Int32))), .val (.ref w_3), .val (.int (0 : Int32)), .val (.int (0 : Int32))] [])) _
          refine XS.iconst X159.here hx rfl (hb hby at_165) ?_
          show Steps p.tables e below (T159.setTop (mkF m 166 #[.val (.int p0), .val (.ref b95), .val (.int (p0 &&& (15 : Int32))), .val (.ref w_3), .val (.int (0 : Int32)), .val (.int (0 : Int32))] [(.int (1 : Int32))])) _
          refine XS.goto X159.here hx rfl (pc0 := 166) (pc' := 170) rfl (hb hby at_166) (by decide) (by decide) ?_
          show Steps p.tables e below (T159.setTop (mkF m 170 #[.val (.int p0), .val (.ref b95), .val (.int (p0 &&& (15 : Int32))), .val (.ref w_3), .val (.int (0 : Int32)), .val (.int (0 : Int32))] [(.int (1 : Int32))])) _
          exact retN X159 hx (t := .boolean) Bd.returns (by simp) (hb hby at_170) hr
        · show Q0 Z w_1 w_2 w_3 w_4 w_5 w_6 w_7 w_8 w_9 w_10 w_11 w_12 w_13 w_14 w_15 w_16 p0 h0 n0 _ T159.heap _
          rw [e159]
          exact ⟨by unfold sp0; rw [if_neg hc145, if_neg hc154, if_pos hc157], N159, trivial⟩
      · by_cases hc160 : (p0 &&& (15 : Int32)) = (3 : Int32)
        · obtain ⟨cl161, Ar161, qa161, Sa161, Ma161, Ha161, Ga161⟩ := id V_b95_143
          have hin161 : ¬ ((p0 &&& (15 : Int32)) < 0 ∨ cl161.slots.size ≤ ((p0 &&& (15 : Int32))).toNatClampNeg) := by rw [hc160]; exact inb_of Sa161 ⟨by decide, by decide⟩
          have hat161 : cl161.slots[((p0 &&& (15 : Int32))).toNatClampNeg]? = some (.ref w_4) := Has.at Ha161 hin161 (by rw [hc160]; rfl)
          obtain ⟨cq162, kq162, q162a, q162b, q162c⟩ := isOf hZ e143 (E_4.ext O143.2)
          obtain ⟨_, _, ⟨T162, L162, k162, n162⟩, -, X162, ⟨Lc162, hQ162, l162, y162, z162⟩, st162⟩ := X143.virtualBack hx (y := Y0) (z := Y0) hown (mvT hZ (hw _ (tk 36 rfl))) (mvT hZ (hw _ (tk 37 rfl))) (notFace_of_selects (args := #[]) (mvT hZ (hw _ (tk 39 rfl)))) (mvT hZ (hw _ (tk 39 rfl))) (mvT hZ (hw _ (tk 38 rfl))) (by decide) (backOf (W := 0) (rm1 l Z a0 hw [] w_1 w_2 w_3 w_4 w_5 w_6 w_7 w_8 w_9 w_10 w_11 w_12 w_13 w_14 w_15 w_16 hS0 w_4 h143 n0 O143) hZ (hw _ (tk 40 rfl)) (hw _ (tk 3 rfl)) (by decide) (by decide)) q162a q162c (g := (mkF m 141 #[.val (.int p0), .val (.ref b95), .val (.int (p0 &&& (15 : Int32))), .val (.ref w_4), .val (.int (0 : Int32)), .unset] [(.ref w_4)])) rfl (by rw [hml]; rfl) (Steps.refl _) (argsL := []) (rest := []) (lenOf pd_0 rfl) rfl (by show 2 * 0 + _ ≤ _; exact Nat.le_of_eq rfl) (hb hby at_141) (fun _ _ => ⟨rfl, e143, (by decide : 1 + 0 ≤ _), (by decide : 16 + 0 ≤ _)⟩)
          dsimp only [Pt.U, Pt.locs, Pt.cells, Pt.slots] at X162 l162 y162 z162 st162 hQ162
          subst l162 y162 z162
          obtain ⟨rv162, N162q, e162⟩ := hQ162
          rw [show sp1 w_9 w_10 w_4 = (0 : Int32) from by unfold sp1; rw [if_neg (Fld.ne F_4_ordinal F_9_ordinal (by decide)), if_neg (Fld.ne F_4_ordinal F_10_ordinal (by decide))]] at rv162
          subst rv162
          have N162 := Fr.app N143 N162q
          obtain ⟨fs, hr, hrun, hended, hW, hsame⟩ := X162.leave (v := some (.int (1 : Int32))) (fun h => by rw [Bd.returns] at h; cases h)
          refine ⟨_, _, pre144 _ ?_, hrun, hended, _, _, rfl, ?_, ⟨_, rfl⟩, hW, hsame.mono (by decide) (by decide)⟩
          · show Steps p.tables e below (T143.setTop (mkF m 119 #[.val (.int p0), .val (.ref b95), .val (.int (p0 &&& (15 : Int32))), .unset, .unset, .unset] [(.int (p0 &&& (15 : Int32))), (.ref b95)])) _
            refine X143.aaload hx (j := (p0 &&& (15 : Int32))) (v := (.ref w_4)) (by rw [e143]; exact Ar161.1) (State.isArrayOf_alike hZ.alike Ar161.2.1) rfl Ar161.2.2 hin161 hat161 (g := (mkF m 119 #[.val (.int p0), .val (.ref b95), .val (.int (p0 &&& (15 : Int32))), .unset, .unset, .unset] [(.int (p0 &&& (15 : Int32))), (.ref b95)])) rfl rfl (hb hby at_119) _ ?_
            show Steps p.tables e below (T143.setTop (mkF m 120 #[.val (.int p0), .val (.ref b95), .val (.int (p0 &&& (15 : Int32))), .unset, .unset, .unset] [(.ref w_4)])) _
            refine XS.astoreN X143.here hx rfl (hb hby at_120) rfl rfl (l' := #[.val (.int p0), .val (.ref b95), .val (.int (p0 &&& (15 : Int32))), .val (.ref w_4), .unset, .unset]) rfl ?_
            show Steps p.tables e below (T143.setTop (mkF m 121 #[.val (.int p0), .val (.ref b95), .val (.int (p0 &&& (15 : Int32))), .val (.ref w_4), .unset, .unset] [])) _
            refine XS.iloadN X143.here hx rfl (hb hby at_121) rfl ?_
            show Steps p.tables e below (T143.setTop (mkF m 122 #[.val (.int p0), .val (.ref b95), .val (.int (p0 &&& (15 : Int32))), .val (.ref w_4), .unset, .unset] [(.int (p0 &&& (15 : Int32)))])) _
            refine XS.bipush X143.here hx rfl (hb hby at_122) ?_
            show Steps p.tables e below (T143.setTop (mkF m 124 #[.val (.int p0), .val (.ref b95), .val (.int (p0 &&& (15 : Int32))), .val (.ref w_4), .unset, .unset] [(.int (8 : Int32)), (.int (p0 &&& (15 : Int32)))])) _
            refine XS.icmpNo X143.here hx rfl (hb hby at_124) rfl (feq (by rw [hc160] <;> decide : ¬ ((p0 &&& (15 : Int32)) = (8 : Int32)))).1 ?_
            show Steps p.tables e below (T143.setTop (mkF m 127 #[.val (.int p0), .val (.ref b95), .val (.int (p0 &&& (15 : Int32))), .val (.ref w_4), .unset, .unset] [])) _
            refine XS.iloadN X143.here hx rfl (hb hby at_127) rfl ?_
            show Steps p.tables e below (T143.setTop (mkF m 128 #[.val (.int p0), .val (.ref b95), .val (.int (p0 &&& (15 : Int32))), .val (.ref w_4), .unset, .unset] [(.int (p0 &&& (15 : Int32)))])) _
            refine XS.bipush X143.here hx rfl (hb hby at_128) ?_
            show Steps p.tables e below (T143.setTop (mkF m 130 #[.val (.int p0), .val (.ref b95), .val (.int (p0 &&& (15 : Int32))), .val (.ref w_4), .unset, .unset] [(.int (9 : Int32)), (.int (p0 &&& (15 : Int32)))])) _
            refine XS.icmpYes X143.here hx rfl (pc0 := 130) (pc' := 137) rfl (hb hby at_130) rfl (feq (by rw [hc160] <;> decide : ¬ ((p0 &&& (15 : Int32)) = (9 : Int32)))).2 (by decide) (by decide) ?_
            show Steps p.tables e below (T143.setTop (mkF m 137 #[.val (.int p0), .val (.ref b95), .val (.int (p0 &&& (15 : Int32))), .val (.ref w_4), .unset, .unset] [])) _
            refine XS.iconst X143.here hx rfl (hb hby at_137) ?_
            show Steps p.tables e below (T143.setTop (mkF m 138 #[.val (.int p0), .val (.ref b95), .val (.int (p0 &&& (15 : Int32))), .val (.ref w_4), .unset, .unset] [(.int (0 : Int32))])) _
            refine XS.istore X143.here hx rfl (hb hby at_138) rfl (l' := #[.val (.int p0), .val (.ref b95), .val (.int (p0 &&& (15 : Int32))), .val (.ref w_4), .val (.int (0 : Int32)), .unset]) rfl ?_
            show Steps p.tables e below (T143.setTop (mkF m 140 #[.val (.int p0), .val (.ref b95), .val (.int (p0 &&& (15 : Int32))), .val (.ref w_4), .val (.int (0 : Int32)), .unset] [])) _
            refine XS.aloadN X143.here hx rfl (hb hby at_140) rfl rfl ?_
            show Steps p.tables e below (T143.setTop (mkF m 141 #[.val (.int p0), .val (.ref b95), .val (.int (p0 &&& (15 : Int32))), .val (.ref w_4), .val (.int (0 : Int32)), .unset] [(.ref w_4)])) _
            refine st162.trans ?_
            show Steps p.tables e below (T162.setTop (mkF m 144 #[.val (.int p0), .val (.ref b95), .val (.int (p0 &&& (15 : Int32))), .val (.ref w_4), .val (.int (0 : Int32)), .unset] [(.int (0 : Int32))])) _
            refine XS.istore X162.here hx rfl (hb hby at_144) rfl (l' := #[.val (.int p0), .val (.ref b95), .val (.int (p0 &&& (15 : Int32))), .val (.ref w_4), .val (.int (0 : Int32)), .val (.int (0 : Int32))]) rfl ?_
            show Steps p.tables e below (T162.setTop (mkF m 146 #[.val (.int p0), .val (.ref b95), .val (.int (p0 &&& (15 : Int32))), .val (.ref w_4), .val (.int (0 : Int32)), .val (.int (0 : Int32))] [])) _
            refine XS.iload X162.here hx rfl (hb hby at_146) rfl ?_
            show Steps p.tables e below (T162.setTop (mkF m 148 #[.val (.int p0), .val (.ref b95), .val (.int (p0 &&& (15 : Int32))), .val (.ref w_4), .val (.int (0 : Int32)), .val (.int (0 : Int32))] [(.int (0 : Int32))])) _
            refine XS.iload X162.here hx rfl (hb hby at_148) rfl ?_
            show Steps p.tables e below (T162.setTop (mkF m 150 #[.val (.int p0), .val (.ref b95), .val (.int (p0 &&& (15 : Int32))), .val (.ref w_4), .val (.int (0 : Int32)), .val (.int (0 : Int32))] [(.int (0 : Int32)), (.int (0 : Int32))])) _
            refine XS.icmpNo X162.here hx rfl (hb hby at_150) rfl (teq (by decide : ((0 : Int32) = (0 : Int32)))).2 ?_
            show Steps p.tables e below (T162.setTop (mkF m 153 #[.val (.int p0), .val (.ref b95), .val (.int (p0 &&& (15 : Int32))), .val (.ref w_4), .val (.int (0 : Int32)), .val (.int (0 : Int32))] [])) _
            refine XS.iload X162.here hx rfl (hb hby at_153) rfl ?_
            show Steps p.tables e below (T162.setTop (mkF m 155 #[.val (.int p0), .val (.ref b95), .val (.int (p0 &&& (15 : Int32))), .val (.ref w_4), .val (.int (0 : Int32)), .val (.int (0 : Int32))] [(.int (0 : Int32))])) _
            refine XS.ifYes X162.here hx rfl (pc0 := 155) (pc' := 165) rfl (hb hby at_155) rfl ((if0 _ _).trans (teq (by decide : ((0 : Int32) = (0 : Int32)))).1) (by decide) (by decide) ?_
            show Steps p.tables e below (T162.setTop (mkF m 165 #[.val (.int p0), .val (.ref b95), .val (.int (p0 &&& (15 : Int32))), .val (.ref w_4), .val (.int (0 : Int32)), .val (.int (0 : Int32))] [])) _
            refine XS.iconst X162.here hx rfl (hb hby at_165) ?_
            show Steps p.tables e below (T162.setTop (mkF m 166 #[.val (.int p0), .val (.ref b95), .val (.int (p0 &&& (15 : Int32))), .val (.ref w_4), .val (.int (0 : Int32)), .val (.int (0 : Int32))] [(.int (1 : Int32))])) _
            refine XS.goto X162.here hx rfl (pc0 := 166) (pc' := 170) rfl (hb hby at_166) (by decide) (by decide) ?_
            show Steps p.tables e below (T162.setTop (mkF m 170 #[.val (.int p0), .val (.ref b95), .val (.int (p0 &&& (15 : Int32))), .val (.ref w_4), .val (.int (0 : Int32)), .val (.int (0 : Int32))] [(.int (1 : Int32))])) _
            exact retN X162 hx (t := .boolean) Bd.returns (by simp) (hb hby at_170) hr
          · show Q0 Z w_1 w_2 w_3 w_4 w_5 w_6 w_7 w_8 w_9 w_10 w_11 w_12 w_13 w_14 w_15 w_16 p0 h0 n0 _ T162.heap _
            rw [e162]
            exact ⟨by unfold sp0; rw [if_neg hc145, if_neg hc154, if_neg hc157, if_pos hc160], N162, trivial⟩
        · by_cases hc163 : (p0 &&& (15 : Int32)) = (4 : Int32)
          · obtain ⟨cl164, Ar164, qa164, Sa164, Ma164, Ha164, Ga164⟩ := id V_b95_143
            have hin164 : ¬ ((p0 &&& (15 : Int32)) < 0 ∨ cl164.slots.size ≤ ((p0 &&& (15 : Int32))).toNatClampNeg) := by rw [hc163]; exact inb_of Sa164 ⟨by decide, by decide⟩
            have hat164 : cl164.slots[((p0 &&& (15 : Int32))).toNatClampNeg]? = some (.ref w_5) := Has.at Ha164 hin164 (by rw [hc163]; rfl)
            obtain ⟨cq165, kq165, q165a, q165b, q165c⟩ := isOf hZ e143 (E_5.ext O143.2)
            obtain ⟨_, _, ⟨T165, L165, k165, n165⟩, -, X165, ⟨Lc165, hQ165, l165, y165, z165⟩, st165⟩ := X143.virtualBack hx (y := Y0) (z := Y0) hown (mvT hZ (hw _ (tk 36 rfl))) (mvT hZ (hw _ (tk 37 rfl))) (notFace_of_selects (args := #[]) (mvT hZ (hw _ (tk 39 rfl)))) (mvT hZ (hw _ (tk 39 rfl))) (mvT hZ (hw _ (tk 38 rfl))) (by decide) (backOf (W := 0) (rm1 l Z a0 hw [] w_1 w_2 w_3 w_4 w_5 w_6 w_7 w_8 w_9 w_10 w_11 w_12 w_13 w_14 w_15 w_16 hS0 w_5 h143 n0 O143) hZ (hw _ (tk 40 rfl)) (hw _ (tk 3 rfl)) (by decide) (by decide)) q165a q165c (g := (mkF m 141 #[.val (.int p0), .val (.ref b95), .val (.int (p0 &&& (15 : Int32))), .val (.ref w_5), .val (.int (0 : Int32)), .unset] [(.ref w_5)])) rfl (by rw [hml]; rfl) (Steps.refl _) (argsL := []) (rest := []) (lenOf pd_0 rfl) rfl (by show 2 * 0 + _ ≤ _; exact Nat.le_of_eq rfl) (hb hby at_141) (fun _ _ => ⟨rfl, e143, (by decide : 1 + 0 ≤ _), (by decide : 16 + 0 ≤ _)⟩)
            dsimp only [Pt.U, Pt.locs, Pt.cells, Pt.slots] at X165 l165 y165 z165 st165 hQ165
            subst l165 y165 z165
            obtain ⟨rv165, N165q, e165⟩ := hQ165
            rw [show sp1 w_9 w_10 w_5 = (0 : Int32) from by unfold sp1; rw [if_neg (Fld.ne F_5_ordinal F_9_ordinal (by decide)), if_neg (Fld.ne F_5_ordinal F_10_ordinal (by decide))]] at rv165
            subst rv165
            have N165 := Fr.app N143 N165q
            obtain ⟨fs, hr, hrun, hended, hW, hsame⟩ := X165.leave (v := some (.int (1 : Int32))) (fun h => by rw [Bd.returns] at h; cases h)
            refine ⟨_, _, pre144 _ ?_, hrun, hended, _, _, rfl, ?_, ⟨_, rfl⟩, hW, hsame.mono (by decide) (by decide)⟩
            · show Steps p.tables e below (T143.setTop (mkF m 119 #[.val (.int p0), .val (.ref b95), .val (.int (p0 &&& (15 : Int32))), .unset, .unset, .unset] [(.int (p0 &&& (15 : Int32))), (.ref b95)])) _
              refine X143.aaload hx (j := (p0 &&& (15 : Int32))) (v := (.ref w_5)) (by rw [e143]; exact Ar164.1) (State.isArrayOf_alike hZ.alike Ar164.2.1) rfl Ar164.2.2 hin164 hat164 (g := (mkF m 119 #[.val (.int p0), .val (.ref b95), .val (.int (p0 &&& (15 : Int32))), .unset, .unset, .unset] [(.int (p0 &&& (15 : Int32))), (.ref b95)])) rfl rfl (hb hby at_119) _ ?_
              show Steps p.tables e below (T143.setTop (mkF m 120 #[.val (.int p0), .val (.ref b95), .val (.int (p0 &&& (15 : Int32))), .unset, .unset, .unset] [(.ref w_5)])) _
              refine XS.astoreN X143.here hx rfl (hb hby at_120) rfl rfl (l' := #[.val (.int p0), .val (.ref b95), .val (.int (p0 &&& (15 : Int32))), .val (.ref w_5), .unset, .unset]) rfl ?_
              show Steps p.tables e below (T143.setTop (mkF m 121 #[.val (.int p0), .val (.ref b95), .val (.int (p0 &&& (15 : Int32))), .val (.ref w_5), .unset, .unset] [])) _
              refine XS.iloadN X143.here hx rfl (hb hby at_121) rfl ?_
              show Steps p.tables e below (T143.setTop (mkF m 122 #[.val (.int p0), .val (.ref b95), .val (.int (p0 &&& (15 : Int32))), .val (.ref w_5), .unset, .unset] [(.int (p0 &&& (15 : Int32)))])) _
              refine XS.bipush X143.here hx rfl (hb hby at_122) ?_
              show Steps p.tables e below (T143.setTop (mkF m 124 #[.val (.int p0), .val (.ref b95), .val (.int (p0 &&& (15 : Int32))), .val (.ref w_5), .unset, .unset] [(.int (8 : Int32)), (.int (p0 &&& (15 : Int32)))])) _
              refine XS.icmpNo X143.here hx rfl (hb hby at_124) rfl (feq (by rw [hc163] <;> decide : ¬ ((p0 &&& (15 : Int32)) = (8 : Int32)))).1 ?_
              show Steps p.tables e below (T143.setTop (mkF m 127 #[.val (.int p0), .val (.ref b95), .val (.int (p0 &&& (15 : Int32))), .val (.ref w_5), .unset, .unset] [])) _
              refine XS.iloadN X143.here hx rfl (hb hby at_127) rfl ?_
              show Steps p.tables e below (T143.setTop (mkF m 128 #[.val (.int p0), .val (.ref b95), .val (.int (p0 &&& (15 : Int32))), .val (.ref w_5), .unset, .unset] [(.int (p0 &&& (15 : Int32)))])) _
              refine XS.bipush X143.here hx rfl (hb hby at_128) ?_
              show Steps p.tables e below (T143.setTop (mkF m 130 #[.val (.int p0), .val (.ref b95), .val (.int (p0 &&& (15 : Int32))), .val (.ref w_5), .unset, .unset] [(.int (9 : Int32)), (.int (p0 &&& (15 : Int32)))])) _
              refine XS.icmpYes X143.here hx rfl (pc0 := 130) (pc' := 137) rfl (hb hby at_130) rfl (feq (by rw [hc163] <;> decide : ¬ ((p0 &&& (15 : Int32)) = (9 : Int32)))).2 (by decide) (by decide) ?_
              show Steps p.tables e below (T143.setTop (mkF m 137 #[.val (.int p0), .val (.ref b95), .val (.int (p0 &&& (15 : Int32))), .val (.ref w_5), .unset, .unset] [])) _
              refine XS.iconst X143.here hx rfl (hb hby at_137) ?_
              show Steps p.tables e below (T143.setTop (mkF m 138 #[.val (.int p0), .val (.ref b95), .val (.int (p0 &&& (15 : Int32))), .val (.ref w_5), .unset, .unset] [(.int (0 : Int32))])) _
              refine XS.istore X143.here hx rfl (hb hby at_138) rfl (l' := #[.val (.int p0), .val (.ref b95), .val (.int (p0 &&& (15 : Int32))), .val (.ref w_5), .val (.int (0 : Int32)), .unset]) rfl ?_
              show Steps p.tables e below (T143.setTop (mkF m 140 #[.val (.int p0), .val (.ref b95), .val (.int (p0 &&& (15 : Int32))), .val (.ref w_5), .val (.int (0 : Int32)), .unset] [])) _
              refine XS.aloadN X143.here hx rfl (hb hby at_140) rfl rfl ?_
              show Steps p.tables e below (T143.setTop (mkF m 141 #[.val (.int p0), .val (.ref b95), .val (.int (p0 &&& (15 : Int32))), .val (.ref w_5), .val (.int (0 : Int32)), .unset] [(.ref w_5)])) _
              refine st165.trans ?_
              show Steps p.tables e below (T165.setTop (mkF m 144 #[.val (.int p0), .val (.ref b95), .val (.int (p0 &&& (15 : Int32))), .val (.ref w_5), .val (.int (0 : Int32)), .unset] [(.int (0 : Int32))])) _
              refine XS.istore X165.here hx rfl (hb hby at_144) rfl (l' := #[.val (.int p0), .val (.ref b95), .val (.int (p0 &&& (15 : Int32))), .val (.ref w_5), .val (.int (0 : Int32)), .val (.int (0 : Int32))]) rfl ?_
              show Steps p.tables e below (T165.setTop (mkF m 146 #[.val (.int p0), .val (.ref b95), .val (.int (p0 &&& (15 : Int32))), .val (.ref w_5), .val (.int (0 : Int32)), .val (.int (0 : Int32))] [])) _
              refine XS.iload X165.here hx rfl (hb hby at_146) rfl ?_
              show Steps p.tables e below (T165.setTop (mkF m 148 #[.val (.int p0), .val (.ref b95), .val (.int (p0 &&& (15 : Int32))), .val (.ref w_5), .val (.int (0 : Int32)), .val (.int (0 : Int32))] [(.int (0 : Int32))])) _
              refine XS.iload X165.here hx rfl (hb hby at_148) rfl ?_
              show Steps p.tables e below (T165.setTop (mkF m 150 #[.val (.int p0), .val (.ref b95), .val (.int (p0 &&& (15 : Int32))), .val (.ref w_5), .val (.int (0 : Int32)), .val (.int (0 : Int32))] [(.int (0 : Int32)), (.int (0 : Int32))])) _
              refine XS.icmpNo X165.here hx rfl (hb hby at_150) rfl (teq (by decide : ((0 : Int32) = (0 : Int32)))).2 ?_
              show Steps p.tables e below (T165.setTop (mkF m 153 #[.val (.int p0), .val (.ref b95), .val (.int (p0 &&& (15 : Int32))), .val (.ref w_5), .val (.int (0 : Int32)), .val (.int (0 : Int32))] [])) _
              refine XS.iload X165.here hx rfl (hb hby at_153) rfl ?_
              show Steps p.tables e below (T165.setTop (mkF m 155 #[.val (.int p0), .val (.ref b95), .val (.int (p0 &&& (15 : Int32))), .val (.ref w_5), .val (.int (0 : Int32)), .val (.int (0 : Int32))] [(.int (0 : Int32))])) _
              refine XS.ifYes X165.here hx rfl (pc0 := 155) (pc' := 165) rfl (hb hby at_155) rfl ((if0 _ _).trans (teq (by decide : ((0 : Int32) = (0 : Int32)))).1) (by decide) (by decide) ?_
              show Steps p.tables e below (T165.setTop (mkF m 165 #[.val (.int p0), .val (.ref b95), .val (.int (p0 &&& (15 : Int32))), .val (.ref w_5), .val (.int (0 : Int32)), .val (.int (0 : Int32))] [])) _
              refine XS.iconst X165.here hx rfl (hb hby at_165) ?_
              show Steps p.tables e below (T165.setTop (mkF m 166 #[.val (.int p0), .val (.ref b95), .val (.int (p0 &&& (15 : Int32))), .val (.ref w_5), .val (.int (0 : Int32)), .val (.int (0 : Int32))] [(.int (1 : Int32))])) _
              refine XS.goto X165.here hx rfl (pc0 := 166) (pc' := 170) rfl (hb hby at_166) (by decide) (by decide) ?_
              show Steps p.tables e below (T165.setTop (mkF m 170 #[.val (.int p0), .val (.ref b95), .val (.int (p0 &&& (15 : Int32))), .val (.ref w_5), .val (.int (0 : Int32)), .val (.int (0 : Int32))] [(.int (1 : Int32))])) _
              exact retN X165 hx (t := .boolean) Bd.returns (by simp) (hb hby at_170) hr
            · show Q0 Z w_1 w_2 w_3 w_4 w_5 w_6 w_7 w_8 w_9 w_10 w_11 w_12 w_13 w_14 w_15 w_16 p0 h0 n0 _ T165.heap _
              rw [e165]
              exact ⟨by unfold sp0; rw [if_neg hc145, if_neg hc154, if_neg hc157, if_neg hc160, if_pos hc163], N165, trivial⟩
          · by_cases hc166 : (p0 &&& (15 : Int32)) = (5 : Int32)
            · obtain ⟨cl167, Ar167, qa167, Sa167, Ma167, Ha167, Ga167⟩ := id V_b95_143
              have hin167 : ¬ ((p0 &&& (15 : Int32)) < 0 ∨ cl167.slots.size ≤ ((p0 &&& (15 : Int32))).toNatClampNeg) := by rw [hc166]; exact inb_of Sa167 ⟨by decide, by decide⟩
              have hat167 : cl167.slots[((p0 &&& (15 : Int32))).toNatClampNeg]? = some (.ref w_6) := Has.at Ha167 hin167 (by rw [hc166]; rfl)
              obtain ⟨cq168, kq168, q168a, q168b, q168c⟩ := isOf hZ e143 (E_6.ext O143.2)
              obtain ⟨_, _, ⟨T168, L168, k168, n168⟩, -, X168, ⟨Lc168, hQ168, l168, y168, z168⟩, st168⟩ := X143.virtualBack hx (y := Y0) (z := Y0) hown (mvT hZ (hw _ (tk 36 rfl))) (mvT hZ (hw _ (tk 37 rfl))) (notFace_of_selects (args := #[]) (mvT hZ (hw _ (tk 39 rfl)))) (mvT hZ (hw _ (tk 39 rfl))) (mvT hZ (hw _ (tk 38 rfl))) (by decide) (backOf (W := 0) (rm1 l Z a0 hw [] w_1 w_2 w_3 w_4 w_5 w_6 w_7 w_8 w_9 w_10 w_11 w_12 w_13 w_14 w_15 w_16 hS0 w_6 h143 n0 O143) hZ (hw _ (tk 40 rfl)) (hw _ (tk 3 rfl)) (by decide) (by decide)) q168a q168c (g := (mkF m 141 #[.val (.int p0), .val (.ref b95), .val (.int (p0 &&& (15 : Int32))), .val (.ref w_6), .val (.int (0 : Int32)), .unset] [(.ref w_6)])) rfl (by rw [hml]; rfl) (Steps.refl _) (argsL := []) (rest := []) (lenOf pd_0 rfl) rfl (by show 2 * 0 + _ ≤ _; exact Nat.le_of_eq rfl) (hb hby at_141) (fun _ _ => ⟨rfl, e143, (by decide : 1 + 0 ≤ _), (by decide : 16 + 0 ≤ _)⟩)
              dsimp only [Pt.U, Pt.locs, Pt.cells, Pt.slots] at X168 l168 y168 z168 st168 hQ168
              subst l168 y168 z168
              obtain ⟨rv168, N168q, e168⟩ := hQ168
              rw [show sp1 w_9 w_10 w_6 = (0 : Int32) from by unfold sp1; rw [if_neg (Fld.ne F_6_ordinal F_9_ordinal (by decide)), if_neg (Fld.ne F_6_ordinal F_10_ordinal (by decide))]] at rv168
              subst rv168
              have N168 := Fr.app N143 N168q
              obtain ⟨fs, hr, hrun, hended, hW, hsame⟩ := X168.leave (v := some (.int (1 : Int32))) (fun h => by rw [Bd.returns] at h; cases h)
              refine ⟨_, _, pre144 _ ?_, hrun, hended, _, _, rfl, ?_, ⟨_, rfl⟩, hW, hsame.mono (by decide) (by decide)⟩
              · show Steps p.tables e below (T143.setTop (mkF m 119 #[.val (.int p0), .val (.ref b95), .val (.int (p0 &&& (15 : Int32))), .unset, .unset, .unset] [(.int (p0 &&& (15 : Int32))), (.ref b95)])) _
                refine X143.aaload hx (j := (p0 &&& (15 : Int32))) (v := (.ref w_6)) (by rw [e143]; exact Ar167.1) (State.isArrayOf_alike hZ.alike Ar167.2.1) rfl Ar167.2.2 hin167 hat167 (g := (mkF m 119 #[.val (.int p0), .val (.ref b95), .val (.int (p0 &&& (15 : Int32))), .unset, .unset, .unset] [(.int (p0 &&& (15 : Int32))), (.ref b95)])) rfl rfl (hb hby at_119) _ ?_
                show Steps p.tables e below (T143.setTop (mkF m 120 #[.val (.int p0), .val (.ref b95), .val (.int (p0 &&& (15 : Int32))), .unset, .unset, .unset] [(.ref w_6)])) _
                refine XS.astoreN X143.here hx rfl (hb hby at_120) rfl rfl (l' := #[.val (.int p0), .val (.ref b95), .val (.int (p0 &&& (15 : Int32))), .val (.ref w_6), .unset, .unset]) rfl ?_
                show Steps p.tables e below (T143.setTop (mkF m 121 #[.val (.int p0), .val (.ref b95), .val (.int (p0 &&& (15 : Int32))), .val (.ref w_6), .unset, .unset] [])) _
                refine XS.iloadN X143.here hx rfl (hb hby at_121) rfl ?_
                show Steps p.tables e below (T143.setTop (mkF m 122 #[.val (.int p0), .val (.ref b95), .val (.int (p0 &&& (15 : Int32))), .val (.ref w_6), .unset, .unset] [(.int (p0 &&& (15 : Int32)))])) _
                refine XS.bipush X143.here hx rfl (hb hby at_122) ?_
                show Steps p.tables e below (T143.setTop (mkF m 124 #[.val (.int p0), .val (.ref b95), .val (.int (p0 &&& (15 : Int32))), .val (.ref w_6), .unset, .unset] [(.int (8 : Int32)), (.int (p0 &&& (15 : Int32)))])) _
                refine XS.icmpNo X143.here hx rfl (hb hby at_124) rfl (feq (by rw [hc166] <;> decide : ¬ ((p0 &&& (15 : Int32)) = (8 : Int32)))).1 ?_
                show Steps p.tables e below (T143.setTop (mkF m 127 #[.val (.int p0), .val (.ref b95), .val (.int (p0 &&& (15 : Int32))), .val (.ref w_6), .unset, .unset] [])) _
                refine XS.iloadN X143.here hx rfl (hb hby at_127) rfl ?_
                show Steps p.tables e below (T143.setTop (mkF m 128 #[.val (.int p0), .val (.ref b95), .val (.int (p0 &&& (15 : Int32))), .val (.ref w_6), .unset, .unset] [(.int (p0 &&& (15 : Int32)))])) _
                refine XS.bipush X143.here hx rfl (hb hby at_128) ?_
                show Steps p.tables e below (T143.setTop (mkF m 130 #[.val (.int p0), .val (.ref b95), .val (.int (p0 &&& (15 : Int32))), .val (.ref w_6), .unset, .unset] [(.int (9 : Int32)), (.int (p0 &&& (15 : Int32)))])) _
                refine XS.icmpYes X143.here hx rfl (pc0 := 130) (pc' := 137) rfl (hb hby at_130) rfl (feq (by rw [hc166] <;> decide : ¬ ((p0 &&& (15 : Int32)) = (9 : Int32)))).2 (by decide) (by decide) ?_
                show Steps p.tables e below (T143.setTop (mkF m 137 #[.val (.int p0), .val (.ref b95), .val (.int (p0 &&& (15 : Int32))), .val (.ref w_6), .unset, .unset] [])) _
                refine XS.iconst X143.here hx rfl (hb hby at_137) ?_
                show Steps p.tables e below (T143.setTop (mkF m 138 #[.val (.int p0), .val (.ref b95), .val (.int (p0 &&& (15 : Int32))), .val (.ref w_6), .unset, .unset] [(.int (0 : Int32))])) _
                refine XS.istore X143.here hx rfl (hb hby at_138) rfl (l' := #[.val (.int p0), .val (.ref b95), .val (.int (p0 &&& (15 : Int32))), .val (.ref w_6), .val (.int (0 : Int32)), .unset]) rfl ?_
                show Steps p.tables e below (T143.setTop (mkF m 140 #[.val (.int p0), .val (.ref b95), .val (.int (p0 &&& (15 : Int32))), .val (.ref w_6), .val (.int (0 : Int32)), .unset] [])) _
                refine XS.aloadN X143.here hx rfl (hb hby at_140) rfl rfl ?_
                show Steps p.tables e below (T143.setTop (mkF m 141 #[.val (.int p0), .val (.ref b95), .val (.int (p0 &&& (15 : Int32))), .val (.ref w_6), .val (.int (0 : Int32)), .unset] [(.ref w_6)])) _
                refine st168.trans ?_
                show Steps p.tables e below (T168.setTop (mkF m 144 #[.val (.int p0), .val (.ref b95), .val (.int (p0 &&& (15 : Int32))), .val (.ref w_6), .val (.int (0 : Int32)), .unset] [(.int (0 : Int32))])) _
                refine XS.istore X168.here hx rfl (hb hby at_144) rfl (l' := #[.val (.int p0), .val (.ref b95), .val (.int (p0 &&& (15 : Int32))), .val (.ref w_6), .val (.int (0 : Int32)), .val (.int (0 : Int32))]) rfl ?_
                show Steps p.tables e below (T168.setTop (mkF m 146 #[.val (.int p0), .val (.ref b95), .val (.int (p0 &&& (15 : Int32))), .val (.ref w_6), .val (.int (0 : Int32)), .val (.int (0 : Int32))] [])) _
                refine XS.iload X168.here hx rfl (hb hby at_146) rfl ?_
                show Steps p.tables e below (T168.setTop (mkF m 148 #[.val (.int p0), .val (.ref b95), .val (.int (p0 &&& (15 : Int32))), .val (.ref w_6), .val (.int (0 : Int32)), .val (.int (0 : Int32))] [(.int (0 : Int32))])) _
                refine XS.iload X168.here hx rfl (hb hby at_148) rfl ?_
                show Steps p.tables e below (T168.setTop (mkF m 150 #[.val (.int p0), .val (.ref b95), .val (.int (p0 &&& (15 : Int32))), .val (.ref w_6), .val (.int (0 : Int32)), .val (.int (0 : Int32))] [(.int (0 : Int32)), (.int (0 : Int32))])) _
                refine XS.icmpNo X168.here hx rfl (hb hby at_150) rfl (teq (by decide : ((0 : Int32) = (0 : Int32)))).2 ?_
                show Steps p.tables e below (T168.setTop (mkF m 153 #[.val (.int p0), .val (.ref b95), .val (.int (p0 &&& (15 : Int32))), .val (.ref w_6), .val (.int (0 : Int32)), .val (.int (0 : Int32))] [])) _
                refine XS.iload X168.here hx rfl (hb hby at_153) rfl ?_
                show Steps p.tables e below (T168.setTop (mkF m 155 #[.val (.int p0), .val (.ref b95), .val (.int (p0 &&& (15 : Int32))), .val (.ref w_6), .val (.int (0 : Int32)), .val (.int (0 : Int32))] [(.int (0 : Int32))])) _
                refine XS.ifYes X168.here hx rfl (pc0 := 155) (pc' := 165) rfl (hb hby at_155) rfl ((if0 _ _).trans (teq (by decide : ((0 : Int32) = (0 : Int32)))).1) (by decide) (by decide) ?_
                show Steps p.tables e below (T168.setTop (mkF m 165 #[.val (.int p0), .val (.ref b95), .val (.int (p0 &&& (15 : Int32))), .val (.ref w_6), .val (.int (0 : Int32)), .val (.int (0 : Int32))] [])) _
                refine XS.iconst X168.here hx rfl (hb hby at_165) ?_
                show Steps p.tables e below (T168.setTop (mkF m 166 #[.val (.int p0), .val (.ref b95), .val (.int (p0 &&& (15 : Int32))), .val (.ref w_6), .val (.int (0 : Int32)), .val (.int (0 : Int32))] [(.int (1 : Int32))])) _
                refine XS.goto X168.here hx rfl (pc0 := 166) (pc' := 170) rfl (hb hby at_166) (by decide) (by decide) ?_
                show Steps p.tables e below (T168.setTop (mkF m 170 #[.val (.int p0), .val (.ref b95), .val (.int (p0 &&& (15 : Int32))), .val (.ref w_6), .val (.int (0 : Int32)), .val (.int (0 : Int32))] [(.int (1 : Int32))])) _
                exact retN X168 hx (t := .boolean) Bd.returns (by simp) (hb hby at_170) hr
              · show Q0 Z w_1 w_2 w_3 w_4 w_5 w_6 w_7 w_8 w_9 w_10 w_11 w_12 w_13 w_14 w_15 w_16 p0 h0 n0 _ T168.heap _
                rw [e168]
                exact ⟨by unfold sp0; rw [if_neg hc145, if_neg hc154, if_neg hc157, if_neg hc160, if_neg hc163, if_pos hc166], N168, trivial⟩
            · by_cases hc169 : (p0 &&& (15 : Int32)) = (6 : Int32)
              · obtain ⟨cl170, Ar170, qa170, Sa170, Ma170, Ha170, Ga170⟩ := id V_b95_143
                have hin170 : ¬ ((p0 &&& (15 : Int32)) < 0 ∨ cl170.slots.size ≤ ((p0 &&& (15 : Int32))).toNatClampNeg) := by rw [hc169]; exact inb_of Sa170 ⟨by decide, by decide⟩
                have hat170 : cl170.slots[((p0 &&& (15 : Int32))).toNatClampNeg]? = some (.ref w_7) := Has.at Ha170 hin170 (by rw [hc169]; rfl)
                obtain ⟨cq171, kq171, q171a, q171b, q171c⟩ := isOf hZ e143 (E_7.ext O143.2)
                obtain ⟨_, _, ⟨T171, L171, k171, n171⟩, -, X171, ⟨Lc171, hQ171, l171, y171, z171⟩, st171⟩ := X143.virtualBack hx (y := Y0) (z := Y0) hown (mvT hZ (hw _ (tk 36 rfl))) (mvT hZ (hw _ (tk 37 rfl))) (notFace_of_selects (args := #[]) (mvT hZ (hw _ (tk 39 rfl)))) (mvT hZ (hw _ (tk 39 rfl))) (mvT hZ (hw _ (tk 38 rfl))) (by decide) (backOf (W := 0) (rm1 l Z a0 hw [] w_1 w_2 w_3 w_4 w_5 w_6 w_7 w_8 w_9 w_10 w_11 w_12 w_13 w_14 w_15 w_16 hS0 w_7 h143 n0 O143) hZ (hw _ (tk 40 rfl)) (hw _ (tk 3 rfl)) (by decide) (by decide)) q171a q171c (g := (mkF m 141 #[.val (.int p0), .val (.ref b95), .val (.int (p0 &&& (15 : Int32))), .val (.ref w_7), .val (.int (0 : Int32)), .unset] [(.ref w_7)])) rfl (by rw [hml]; rfl) (Steps.refl _) (argsL := []) (rest := []) (lenOf pd_0 rfl) rfl (by show 2 * 0 + _ ≤ _; exact Nat.le_of_eq rfl) (hb hby at_141) (fun _ _ => ⟨rfl, e143, (by decide : 1 + 0 ≤ _), (by decide : 16 + 0 ≤ _)⟩)
                dsimp only [Pt.U, Pt.locs, Pt.cells, Pt.slots] at X171 l171 y171 z171 st171 hQ171
                subst l171 y171 z171
                obtain ⟨rv171, N171q, e171⟩ := hQ171
                rw [show sp1 w_9 w_10 w_7 = (0 : Int32) from by unfold sp1; rw [if_neg (Fld.ne F_7_ordinal F_9_ordinal (by decide)), if_neg (Fld.ne F_7_ordinal F_10_ordinal (by decide))]] at rv171
                subst rv171
                have N171 := Fr.app N143 N171q
                obtain ⟨fs, hr, hrun, hended, hW, hsame⟩ := X171.leave (v := some (.int (1 : Int32))) (fun h => by rw [Bd.returns] at h; cases h)
                refine ⟨_, _, pre144 _ ?_, hrun, hended, _, _, rfl, ?_, ⟨_, rfl⟩, hW, hsame.mono (by decide) (by decide)⟩
                · show Steps p.tables e below (T143.setTop (mkF m 119 #[.val (.int p0), .val (.ref b95), .val (.int (p0 &&& (15 : Int32))), .unset, .unset, .unset] [(.int (p0 &&& (15 : Int32))), (.ref b95)])) _
                  refine X143.aaload hx (j := (p0 &&& (15 : Int32))) (v := (.ref w_7)) (by rw [e143]; exact Ar170.1) (State.isArrayOf_alike hZ.alike Ar170.2.1) rfl Ar170.2.2 hin170 hat170 (g := (mkF m 119 #[.val (.int p0), .val (.ref b95), .val (.int (p0 &&& (15 : Int32))), .unset, .unset, .unset] [(.int (p0 &&& (15 : Int32))), (.ref b95)])) rfl rfl (hb hby at_119) _ ?_
                  show Steps p.tables e below (T143.setTop (mkF m 120 #[.val (.int p0), .val (.ref b95), .val (.int (p0 &&& (15 : Int32))), .unset, .unset, .unset] [(.ref w_7)])) _
                  refine XS.astoreN X143.here hx rfl (hb hby at_120) rfl rfl (l' := #[.val (.int p0), .val (.ref b95), .val (.int (p0 &&& (15 : Int32))), .val (.ref w_7), .unset, .unset]) rfl ?_
                  show Steps p.tables e below (T143.setTop (mkF m 121 #[.val (.int p0), .val (.ref b95), .val (.int (p0 &&& (15 : Int32))), .val (.ref w_7), .unset, .unset] [])) _
                  refine XS.iloadN X143.here hx rfl (hb hby at_121) rfl ?_
                  show Steps p.tables e below (T143.setTop (mkF m 122 #[.val (.int p0), .val (.ref b95), .val (.int (p0 &&& (15 : Int32))), .val (.ref w_7), .unset, .unset] [(.int (p0 &&& (15 : Int32)))])) _
                  refine XS.bipush X143.here hx rfl (hb hby at_122) ?_
                  show Steps p.tables e below (T143.setTop (mkF m 124 #[.val (.int p0), .val (.ref b95), .val (.int (p0 &&& (15 : Int32))), .val (.ref w_7), .unset, .unset] [(.int (8 : Int32)), (.int (p0 &&& (15 : Int32)))])) _
                  refine XS.icmpNo X143.here hx rfl (hb hby at_124) rfl (feq (by rw [hc169] <;> decide : ¬ ((p0 &&& (15 : Int32)) = (8 : Int32)))).1 ?_
                  show Steps p.tables e below (T143.setTop (mkF m 127 #[.val (.int p0), .val (.ref b95), .val (.int (p0 &&& (15 : Int32))), .val (.ref w_7), .unset, .unset] [])) _
                  refine XS.iloadN X143.here hx rfl (hb hby at_127) rfl ?_
                  show Steps p.tables e below (T143.setTop (mkF m 128 #[.val (.int p0), .val (.ref b95), .val (.int (p0 &&& (15 : Int32))), .val (.ref w_7), .unset, .unset] [(.int (p0 &&& (15 : Int32)))])) _
                  refine XS.bipush X143.here hx rfl (hb hby at_128) ?_
                  show Steps p.tables e below (T143.setTop (mkF m 130 #[.val (.int p0), .val (.ref b95), .val (.int (p0 &&& (15 : Int32))), .val (.ref w_7), .unset, .unset] [(.int (9 : Int32)), (.int (p0 &&& (15 : Int32)))])) _
                  refine XS.icmpYes X143.here hx rfl (pc0 := 130) (pc' := 137) rfl (hb hby at_130) rfl (feq (by rw [hc169] <;> decide : ¬ ((p0 &&& (15 : Int32)) = (9 : Int32)))).2 (by decide) (by decide) ?_
                  show Steps p.tables e below (T143.setTop (mkF m 137 #[.val (.int p0), .val (.ref b95), .val (.int (p0 &&& (15 : Int32))), .val (.ref w_7), .unset, .unset] [])) _
                  refine XS.iconst X143.here hx rfl (hb hby at_137) ?_
                  show Steps p.tables e below (T143.setTop (mkF m 138 #[.val (.int p0), .val (.ref b95), .val (.int (p0 &&& (15 : Int32))), .val (.ref w_7), .unset, .unset] [(.int (0 : Int32))])) _
                  refine XS.istore X143.here hx rfl (hb hby at_138) rfl (l' := #[.val (.int p0), .val (.ref b95), .val (.int (p0 &&& (15 : Int32))), .val (.ref w_7), .val (.int (0 : Int32)), .unset]) rfl ?_
                  show Steps p.tables e below (T143.setTop (mkF m 140 #[.val (.int p0), .val (.ref b95), .val (.int (p0 &&& (15 : Int32))), .val (.ref w_7), .val (.int (0 : Int32)), .unset] [])) _
                  refine XS.aloadN X143.here hx rfl (hb hby at_140) rfl rfl ?_
                  show Steps p.tables e below (T143.setTop (mkF m 141 #[.val (.int p0), .val (.ref b95), .val (.int (p0 &&& (15 : Int32))), .val (.ref w_7), .val (.int (0 : Int32)), .unset] [(.ref w_7)])) _
                  refine st171.trans ?_
                  show Steps p.tables e below (T171.setTop (mkF m 144 #[.val (.int p0), .val (.ref b95), .val (.int (p0 &&& (15 : Int32))), .val (.ref w_7), .val (.int (0 : Int32)), .unset] [(.int (0 : Int32))])) _
                  refine XS.istore X171.here hx rfl (hb hby at_144) rfl (l' := #[.val (.int p0), .val (.ref b95), .val (.int (p0 &&& (15 : Int32))), .val (.ref w_7), .val (.int (0 : Int32)), .val (.int (0 : Int32))]) rfl ?_
                  show Steps p.tables e below (T171.setTop (mkF m 146 #[.val (.int p0), .val (.ref b95), .val (.int (p0 &&& (15 : Int32))), .val (.ref w_7), .val (.int (0 : Int32)), .val (.int (0 : Int32))] [])) _
                  refine XS.iload X171.here hx rfl (hb hby at_146) rfl ?_
                  show Steps p.tables e below (T171.setTop (mkF m 148 #[.val (.int p0), .val (.ref b95), .val (.int (p0 &&& (15 : Int32))), .val (.ref w_7), .val (.int (0 : Int32)), .val (.int (0 : Int32))] [(.int (0 : Int32))])) _
                  refine XS.iload X171.here hx rfl (hb hby at_148) rfl ?_
                  show Steps p.tables e below (T171.setTop (mkF m 150 #[.val (.int p0), .val (.ref b95), .val (.int (p0 &&& (15 : Int32))), .val (.ref w_7), .val (.int (0 : Int32)), .val (.int (0 : Int32))] [(.int (0 : Int32)), (.int (0 : Int32))])) _
                  refine XS.icmpNo X171.here hx rfl (hb hby at_150) rfl (teq (by decide : ((0 : Int32) = (0 : Int32)))).2 ?_
                  show Steps p.tables e below (T171.setTop (mkF m 153 #[.val (.int p0), .val (.ref b95), .val (.int (p0 &&& (15 : Int32))), .val (.ref w_7), .val (.int (0 : Int32)), .val (.int (0 : Int32))] [])) _
                  refine XS.iload X171.here hx rfl (hb hby at_153) rfl ?_
                  show Steps p.tables e below (T171.setTop (mkF m 155 #[.val (.int p0), .val (.ref b95), .val (.int (p0 &&& (15 : Int32))), .val (.ref w_7), .val (.int (0 : Int32)), .val (.int (0 : Int32))] [(.int (0 : Int32))])) _
                  refine XS.ifYes X171.here hx rfl (pc0 := 155) (pc' := 165) rfl (hb hby at_155) rfl ((if0 _ _).trans (teq (by decide : ((0 : Int32) = (0 : Int32)))).1) (by decide) (by decide) ?_
                  show Steps p.tables e below (T171.setTop (mkF m 165 #[.val (.int p0), .val (.ref b95), .val (.int (p0 &&& (15 : Int32))), .val (.ref w_7), .val (.int (0 : Int32)), .val (.int (0 : Int32))] [])) _
                  refine XS.iconst X171.here hx rfl (hb hby at_165) ?_
                  show Steps p.tables e below (T171.setTop (mkF m 166 #[.val (.int p0), .val (.ref b95), .val (.int (p0 &&& (15 : Int32))), .val (.ref w_7), .val (.int (0 : Int32)), .val (.int (0 : Int32))] [(.int (1 : Int32))])) _
                  refine XS.goto X171.here hx rfl (pc0 := 166) (pc' := 170) rfl (hb hby at_166) (by decide) (by decide) ?_
                  show Steps p.tables e below (T171.setTop (mkF m 170 #[.val (.int p0), .val (.ref b95), .val (.int (p0 &&& (15 : Int32))), .val (.ref w_7), .val (.int (0 : Int32)), .val (.int (0 : Int32))] [(.int (1 : Int32))])) _
                  exact retN X171 hx (t := .boolean) Bd.returns (by simp) (hb hby at_170) hr
                · show Q0 Z w_1 w_2 w_3 w_4 w_5 w_6 w_7 w_8 w_9 w_10 w_11 w_12 w_13 w_14 w_15 w_16 p0 h0 n0 _ T171.heap _
                  rw [e171]
                  exact ⟨by unfold sp0; rw [if_neg hc145, if_neg hc154, if_neg hc157, if_neg hc160, if_neg hc163, if_neg hc166, if_pos hc169], N171, trivial⟩
              · by_cases hc172 : (p0 &&& (15 : Int32)) = (7 : Int32)
                · obtain ⟨cl173, Ar173, qa173, Sa173, Ma173, Ha173, Ga173⟩ := id V_b95_143
                  have hin173 : ¬ ((p0 &&& (15 : Int32)) < 0 ∨ cl173.slots.size ≤ ((p0 &&& (15 : Int32))).toNatClampNeg) := by rw [hc172]; exact inb_of Sa173 ⟨by decide, by decide⟩
                  have hat173 : cl173.slots[((p0 &&& (15 : Int32))).toNatClampNeg]? = some (.ref w_8) := Has.at Ha173 hin173 (by rw [hc172]; rfl)
                  obtain ⟨cq174, kq174, q174a, q174b, q174c⟩ := isOf hZ e143 (E_8.ext O143.2)
                  obtain ⟨_, _, ⟨T174, L174, k174, n174⟩, -, X174, ⟨Lc174, hQ174, l174, y174, z174⟩, st174⟩ := X143.virtualBack hx (y := Y0) (z := Y0) hown (mvT hZ (hw _ (tk 36 rfl))) (mvT hZ (hw _ (tk 37 rfl))) (notFace_of_selects (args := #[]) (mvT hZ (hw _ (tk 39 rfl)))) (mvT hZ (hw _ (tk 39 rfl))) (mvT hZ (hw _ (tk 38 rfl))) (by decide) (backOf (W := 0) (rm1 l Z a0 hw [] w_1 w_2 w_3 w_4 w_5 w_6 w_7 w_8 w_9 w_10 w_11 w_12 w_13 w_14 w_15 w_16 hS0 w_8 h143 n0 O143) hZ (hw _ (tk 40 rfl)) (hw _ (tk 3 rfl)) (by decide) (by decide)) q174a q174c (g := (mkF m 141 #[.val (.int p0), .val (.ref b95), .val (.int (p0 &&& (15 : Int32))), .val (.ref w_8), .val (.int (0 : Int32)), .unset] [(.ref w_8)])) rfl (by rw [hml]; rfl) (Steps.refl _) (argsL := []) (rest := []) (lenOf pd_0 rfl) rfl (by show 2 * 0 + _ ≤ _; exact Nat.le_of_eq rfl) (hb hby at_141) (fun _ _ => ⟨rfl, e143, (by decide : 1 + 0 ≤ _), (by decide : 16 + 0 ≤ _)⟩)
                  dsimp only [Pt.U, Pt.locs, Pt.cells, Pt.slots] at X174 l174 y174 z174 st174 hQ174
                  subst l174 y174 z174
                  obtain ⟨rv174, N174q, e174⟩ := hQ174
                  rw [show sp1 w_9 w_10 w_8 = (0 : Int32) from by unfold sp1; rw [if_neg (Fld.ne F_8_ordinal F_9_ordinal (by decide)), if_neg (Fld.ne F_8_ordinal F_10_ordinal (by decide))]] at rv174
                  subst rv174
                  have N174 := Fr.app N143 N174q
                  obtain ⟨fs, hr, hrun, hended, hW, hsame⟩ := X174.leave (v := some (.int (1 : Int32))) (fun h => by rw [Bd.returns] at h; cases h)
                  refine ⟨_, _, pre144 _ ?_, hrun, hended, _, _, rfl, ?_, ⟨_, rfl⟩, hW, hsame.mono (by decide) (by decide)⟩
                  · show Steps p.tables e below (T143.setTop (mkF m 119 #[.val (.int p0), .val (.ref b95), .val (.int (p0 &&& (15 : Int32))), .unset, .unset, .unset] [(.int (p0 &&& (15 : Int32))), (.ref b95)])) _
                    refine X143.aaload hx (j := (p0 &&& (15 : Int32))) (v := (.ref w_8)) (by rw [e143]; exact Ar173.1) (State.isArrayOf_alike hZ.alike Ar173.2.1) rfl Ar173.2.2 hin173 hat173 (g := (mkF m 119 #[.val (.int p0), .val (.ref b95), .val (.int (p0 &&& (15 : Int32))), .unset, .unset, .unset] [(.int (p0 &&& (15 : Int32))), (.ref b95)])) rfl rfl (hb hby at_119) _ ?_
                    show Steps p.tables e below (T143.setTop (mkF m 120 #[.val (.int p0), .val (.ref b95), .val (.int (p0 &&& (15 : Int32))), .unset, .unset, .unset] [(.ref w_8)])) _
                    refine XS.astoreN X143.here hx rfl (hb hby at_120) rfl rfl (l' := #[.val (.int p0), .val (.ref b95), .val (.int (p0 &&& (15 : Int32))), .val (.ref w_8), .unset, .unset]) rfl ?_
                    show Steps p.tables e below (T143.setTop (mkF m 121 #[.val (.int p0), .val (.ref b95), .val (.int (p0 &&& (15 : Int32))), .val (.ref w_8), .unset, .unset] [])) _
                    refine XS.iloadN X143.here hx rfl (hb hby at_121) rfl ?_
                    show Steps p.tables e below (T143.setTop (mkF m 122 #[.val (.int p0), .val (.ref b95), .val (.int (p0 &&& (15 : Int32))), .val (.ref w_8), .unset, .unset] [(.int (p0 &&& (15 : Int32)))])) _
                    refine XS.bipush X143.here hx rfl (hb hby at_122) ?_
                    show Steps p.tables e below (T143.setTop (mkF m 124 #[.val (.int p0), .val (.ref b95), .val (.int (p0 &&& (15 : Int32))), .val (.ref w_8), .unset, .unset] [(.int (8 : Int32)), (.int (p0 &&& (15 : Int32)))])) _
                    refine XS.icmpNo X143.here hx rfl (hb hby at_124) rfl (feq (by rw [hc172] <;> decide : ¬ ((p0 &&& (15 : Int32)) = (8 : Int32)))).1 ?_
                    show Steps p.tables e below (T143.setTop (mkF m 127 #[.val (.int p0), .val (.ref b95), .val (.int (p0 &&& (15 : Int32))), .val (.ref w_8), .unset, .unset] [])) _
                    refine XS.iloadN X143.here hx rfl (hb hby at_127) rfl ?_
                    show Steps p.tables e below (T143.setTop (mkF m 128 #[.val (.int p0), .val (.ref b95), .val (.int (p0 &&& (15 : Int32))), .val (.ref w_8), .unset, .unset] [(.int (p0 &&& (15 : Int32)))])) _
                    refine XS.bipush X143.here hx rfl (hb hby at_128) ?_
                    show Steps p.tables e below (T143.setTop (mkF m 130 #[.val (.int p0), .val (.ref b95), .val (.int (p0 &&& (15 : Int32))), .val (.ref w_8), .unset, .unset] [(.int (9 : Int32)), (.int (p0 &&& (15 : Int32)))])) _
                    refine XS.icmpYes X143.here hx rfl (pc0 := 130) (pc' := 137) rfl (hb hby at_130) rfl (feq (by rw [hc172] <;> decide : ¬ ((p0 &&& (15 : Int32)) = (9 : Int32)))).2 (by decide) (by decide) ?_
                    show Steps p.tables e below (T143.setTop (mkF m 137 #[.val (.int p0), .val (.ref b95), .val (.int (p0 &&& (15 : Int32))), .val (.ref w_8), .unset, .unset] [])) _
                    refine XS.iconst X143.here hx rfl (hb hby at_137) ?_
                    show Steps p.tables e below (T143.setTop (mkF m 138 #[.val (.int p0), .val (.ref b95), .val (.int (p0 &&& (15 : Int32))), .val (.ref w_8), .unset, .unset] [(.int (0 : Int32))])) _
                    refine XS.istore X143.here hx rfl (hb hby at_138) rfl (l' := #[.val (.int p0), .val (.ref b95), .val (.int (p0 &&& (15 : Int32))), .val (.ref w_8), .val (.int (0 : Int32)), .unset]) rfl ?_
                    show Steps p.tables e below (T143.setTop (mkF m 140 #[.val (.int p0), .val (.ref b95), .val (.int (p0 &&& (15 : Int32))), .val (.ref w_8), .val (.int (0 : Int32)), .unset] [])) _
                    refine XS.aloadN X143.here hx rfl (hb hby at_140) rfl rfl ?_
                    show Steps p.tables e below (T143.setTop (mkF m 141 #[.val (.int p0), .val (.ref b95), .val (.int (p0 &&& (15 : Int32))), .val (.ref w_8), .val (.int (0 : Int32)), .unset] [(.ref w_8)])) _
                    refine st174.trans ?_
                    show Steps p.tables e below (T174.setTop (mkF m 144 #[.val (.int p0), .val (.ref b95), .val (.int (p0 &&& (15 : Int32))), .val (.ref w_8), .val (.int (0 : Int32)), .unset] [(.int (0 : Int32))])) _
                    refine XS.istore X174.here hx rfl (hb hby at_144) rfl (l' := #[.val (.int p0), .val (.ref b95), .val (.int (p0 &&& (15 : Int32))), .val (.ref w_8), .val (.int (0 : Int32)), .val (.int (0 : Int32))]) rfl ?_
                    show Steps p.tables e below (T174.setTop (mkF m 146 #[.val (.int p0), .val (.ref b95), .val (.int (p0 &&& (15 : Int32))), .val (.ref w_8), .val (.int (0 : Int32)), .val (.int (0 : Int32))] [])) _
                    refine XS.iload X174.here hx rfl (hb hby at_146) rfl ?_
                    show Steps p.tables e below (T174.setTop (mkF m 148 #[.val (.int p0), .val (.ref b95), .val (.int (p0 &&& (15 : Int32))), .val (.ref w_8), .val (.int (0 : Int32)), .val (.int (0 : Int32))] [(.int (0 : Int32))])) _
                    refine XS.iload X174.here hx rfl (hb hby at_148) rfl ?_
                    show Steps p.tables e below (T174.setTop (mkF m 150 #[.val (.int p0), .val (.ref b95), .val (.int (p0 &&& (15 : Int32))), .val (.ref w_8), .val (.int (0 : Int32)), .val (.int (0 : Int32))] [(.int (0 : Int32)), (.int (0 : Int32))])) _
                    refine XS.icmpNo X174.here hx rfl (hb hby at_150) rfl (teq (by decide : ((0 : Int32) = (0 : Int32)))).2 ?_
                    show Steps p.tables e below (T174.setTop (mkF m 153 #[.val (.int p0), .val (.ref b95), .val (.int (p0 &&& (15 : Int32))), .val (.ref w_8), .val (.int (0 : Int32)), .val (.int (0 : Int32))] [])) _
                    refine XS.iload X174.here hx rfl (hb hby at_153) rfl ?_
                    show Steps p.tables e below (T174.setTop (mkF m 155 #[.val (.int p0), .val (.ref b95), .val (.int (p0 &&& (15 : Int32))), .val (.ref w_8), .val (.int (0 : Int32)), .val (.int (0 : Int32))] [(.int (0 : Int32))])) _
                    refine XS.ifYes X174.here hx rfl (pc0 := 155) (pc' := 165) rfl (hb hby at_155) rfl ((if0 _ _).trans (teq (by decide : ((0 : Int32) = (0 : Int32)))).1) (by decide) (by decide) ?_
                    show Steps p.tables e below (T174.setTop (mkF m 165 #[.val (.int p0), .val (.ref b95), .val (.int (p0 &&& (15 : Int32))), .val (.ref w_8), .val (.int (0 : Int32)), .val (.int (0 : Int32))] [])) _
                    refine XS.iconst X174.here hx rfl (hb hby at_165) ?_
                    show Steps p.tables e below (T174.setTop (mkF m 166 #[.val (.int p0), .val (.ref b95), .val (.int (p0 &&& (15 : Int32))), .val (.ref w_8), .val (.int (0 : Int32)), .val (.int (0 : Int32))] [(.int (1 : Int32))])) _
                    refine XS.goto X174.here hx rfl (pc0 := 166) (pc' := 170) rfl (hb hby at_166) (by decide) (by decide) ?_
                    show Steps p.tables e below (T174.setTop (mkF m 170 #[.val (.int p0), .val (.ref b95), .val (.int (p0 &&& (15 : Int32))), .val (.ref w_8), .val (.int (0 : Int32)), .val (.int (0 : Int32))] [(.int (1 : Int32))])) _
                    exact retN X174 hx (t := .boolean) Bd.returns (by simp) (hb hby at_170) hr
                  · show Q0 Z w_1 w_2 w_3 w_4 w_5 w_6 w_7 w_8 w_9 w_10 w_11 w_12 w_13 w_14 w_15 w_16 p0 h0 n0 _ T174.heap _
                    rw [e174]
                    exact ⟨by unfold sp0; rw [if_neg hc145, if_neg hc154, if_neg hc157, if_neg hc160, if_neg hc163, if_neg hc166, if_neg hc169, if_pos hc172], N174, trivial⟩
                · by_cases hc175 : (p0 &&& (15 : Int32)) = (8 : Int32)
                  · obtain ⟨cl176, Ar176, qa176, Sa176, Ma176, Ha176, Ga176⟩ := id V_b95_143
                    have hin176 : ¬ ((p0 &&& (15 : Int32)) < 0 ∨ cl176.slots.size ≤ ((p0 &&& (15 : Int32))).toNatClampNeg) := by rw [hc175]; exact inb_of Sa176 ⟨by decide, by decide⟩
                    have hat176 : cl176.slots[((p0 &&& (15 : Int32))).toNatClampNeg]? = some (.ref w_9) := Has.at Ha176 hin176 (by rw [hc175]; rfl)
                    obtain ⟨cq177, kq177, q177a, q177b, q177c⟩ := isOf hZ e143 (E_9.ext O143.2)
                    obtain ⟨_, _, ⟨T177, L177, k177, n177⟩, -, X177, ⟨Lc177, hQ177, l177, y177, z177⟩, st177⟩ := X143.virtualBack hx (y := Y0) (z := Y0) hown (mvT hZ (hw _ (tk 36 rfl))) (mvT hZ (hw _ (tk 37 rfl))) (notFace_of_selects (args := #[]) (mvT hZ (hw _ (tk 39 rfl)))) (mvT hZ (hw _ (tk 39 rfl))) (mvT hZ (hw _ (tk 38 rfl))) (by decide) (backOf (W := 0) (rm1 l Z a0 hw [] w_1 w_2 w_3 w_4 w_5 w_6 w_7 w_8 w_9 w_10 w_11 w_12 w_13 w_14 w_15 w_16 hS0 w_9 h143 n0 O143) hZ (hw _ (tk 40 rfl)) (hw _ (tk 3 rfl)) (by decide) (by decide)) q177a q177c (g := (mkF m 141 #[.val (.int p0), .val (.ref b95), .val (.int (p0 &&& (15 : Int32))), .val (.ref w_9), .val (.int (1 : Int32)), .unset] [(.ref w_9)])) rfl (by rw [hml]; rfl) (Steps.refl _) (argsL := []) (rest := []) (lenOf pd_0 rfl) rfl (by show 2 * 0 + _ ≤ _; exact Nat.le_of_eq rfl) (hb hby at_141) (fun _ _ => ⟨rfl, e143, (by decide : 1 + 0 ≤ _), (by decide : 16 + 0 ≤ _)⟩)
                    dsimp only [Pt.U, Pt.locs, Pt.cells, Pt.slots] at X177 l177 y177 z177 st177 hQ177
                    subst l177 y177 z177
                    obtain ⟨rv177, N177q, e177⟩ := hQ177
                    rw [show sp1 w_9 w_10 w_9 = (1 : Int32) from by unfold sp1; rw [if_pos rfl]] at rv177
                    subst rv177
                    have N177 := Fr.app N143 N177q
                    obtain ⟨cq179, kq179, q179a, q179b, q179c⟩ := isOf hZ e177 (E_9.ext O143.2)
                    obtain ⟨_, _, ⟨T179, L179, k179, n179⟩, -, X179, ⟨Lc179, hQ179, l179, y179, z179⟩, st179⟩ := X177.virtualBack hx (y := Y1) (z := Y1) hown (mvT hZ (hw _ (tk 43 rfl))) (mvT hZ (hw _ (tk 44 rfl))) (notFace_of_selects (args := #[]) (mvT hZ (hw _ (tk 46 rfl)))) (mvT hZ (hw _ (tk 46 rfl))) (mvT hZ (hw _ (tk 45 rfl))) (by decide) (backOf (W := 0) (rm2 l Z a0 hw [] w_1 w_2 w_3 w_4 w_5 w_6 w_7 w_8 w_9 w_10 w_11 w_12 w_13 w_14 w_15 w_16 hS0 w_9 (0 : Int32) h143 n0 O143 (F_9_comparison.ext O143.2)) hZ (hw _ (tk 47 rfl)) (hw _ (tk 3 rfl)) (by decide) (by decide)) q179a q179c (g := (mkF m 159 #[.val (.int p0), .val (.ref b95), .val (.int (p0 &&& (15 : Int32))), .val (.ref w_9), .val (.int (1 : Int32)), .val (.int (1 : Int32))] [(.ref w_9)])) rfl (by rw [hml]; rfl) (Steps.refl _) (argsL := []) (rest := []) (lenOf pd_0 rfl) rfl (by show 2 * 0 + _ ≤ _; exact Nat.le_of_eq rfl) (hb hby at_159) (fun _ _ => ⟨rfl, e177, (by decide : 1 + 0 ≤ _), (by decide : 16 + 0 ≤ _)⟩)
                    dsimp only [Pt.U, Pt.locs, Pt.cells, Pt.slots] at X179 l179 y179 z179 st179 hQ179
                    subst l179 y179 z179
                    obtain ⟨rv179, N179q, e179⟩ := hQ179
                    rw [show sp2 (0 : Int32) = (nar .boolean (0 : Int32)) from by unfold sp2; rfl] at rv179
                    subst rv179
                    have N179 := Fr.app N177 N179q
                    obtain ⟨fs, hr, hrun, hended, hW, hsame⟩ := X179.leave (v := some (.int (1 : Int32))) (fun h => by rw [Bd.returns] at h; cases h)
                    refine ⟨_, _, pre144 _ ?_, hrun, hended, _, _, rfl, ?_, ⟨_, rfl⟩, hW, hsame.mono (by decide) (by decide)⟩
                    · show Steps p.tables e below (T143.setTop (mkF m 119 #[.val (.int p0), .val (.ref b95), .val (.int (p0 &&& (15 : Int32))), .unset, .unset, .unset] [(.int (p0 &&& (15 : Int32))), (.ref b95)])) _
                      refine X143.aaload hx (j := (p0 &&& (15 : Int32))) (v := (.ref w_9)) (by rw [e143]; exact Ar176.1) (State.isArrayOf_alike hZ.alike Ar176.2.1) rfl Ar176.2.2 hin176 hat176 (g := (mkF m 119 #[.val (.int p0), .val (.ref b95), .val (.int (p0 &&& (15 : Int32))), .unset, .unset, .unset] [(.int (p0 &&& (15 : Int32))), (.ref b95)])) rfl rfl (hb hby at_119) _ ?_
                      show Steps p.tables e below (T143.setTop (mkF m 120 #[.val (.int p0), .val (.ref b95), .val (.int (p0 &&& (15 : Int32))), .unset, .unset, .unset] [(.ref w_9)])) _
                      refine XS.astoreN X143.here hx rfl (hb hby at_120) rfl rfl (l' := #[.val (.int p0), .val (.ref b95), .val (.int (p0 &&& (15 : Int32))), .val (.ref w_9), .unset, .unset]) rfl ?_
                      show Steps p.tables e below (T143.setTop (mkF m 121 #[.val (.int p0), .val (.ref b95), .val (.int (p0 &&& (15 : Int32))), .val (.ref w_9), .unset, .unset] [])) _
                      refine XS.iloadN X143.here hx rfl (hb hby at_121) rfl ?_
                      show Steps p.tables e below (T143.setTop (mkF m 122 #[.val (.int p0), .val (.ref b95), .val (.int (p0 &&& (15 : Int32))), .val (.ref w_9), .unset, .unset] [(.int (p0 &&& (15 : Int32)))])) _
                      refine XS.bipush X143.here hx rfl (hb hby at_122) ?_
                      show Steps p.tables e below (T143.setTop (mkF m 124 #[.val (.int p0), .val (.ref b95), .val (.int (p0 &&& (15 : Int32))), .val (.ref w_9), .unset, .unset] [(.int (8 : Int32)), (.int (p0 &&& (15 : Int32)))])) _
                      refine XS.icmpYes X143.here hx rfl (pc0 := 124) (pc' := 133) rfl (hb hby at_124) rfl (teq hc175).1 (by decide) (by decide) ?_
                      show Steps p.tables e below (T143.setTop (mkF m 133 #[.val (.int p0), .val (.ref b95), .val (.int (p0 &&& (15 : Int32))), .val (.ref w_9), .unset, .unset] [])) _
                      refine XS.iconst X143.here hx rfl (hb hby at_133) ?_
                      show Steps p.tables e below (T143.setTop (mkF m 134 #[.val (.int p0), .val (.ref b95), .val (.int (p0 &&& (15 : Int32))), .val (.ref w_9), .unset, .unset] [(.int (1 : Int32))])) _
                      refine XS.goto X143.here hx rfl (pc0 := 134) (pc' := 138) rfl (hb hby at_134) (by decide) (by decide) ?_
                      show Steps p.tables e below (T143.setTop (mkF m 138 #[.val (.int p0), .val (.ref b95), .val (.int (p0 &&& (15 : Int32))), .val (.ref w_9), .unset, .unset] [(.int (1 : Int32))])) _
                      refine XS.istore X143.here hx rfl (hb hby at_138) rfl (l' := #[.val (.int p0), .val (.ref b95), .val (.int (p0 &&& (15 : Int32))), .val (.ref w_9), .val (.int (1 : Int32)), .unset]) rfl ?_
                      show Steps p.tables e below (T143.setTop (mkF m 140 #[.val (.int p0), .val (.ref b95), .val (.int (p0 &&& (15 : Int32))), .val (.ref w_9), .val (.int (1 : Int32)), .unset] [])) _
                      refine XS.aloadN X143.here hx rfl (hb hby at_140) rfl rfl ?_
                      show Steps p.tables e below (T143.setTop (mkF m 141 #[.val (.int p0), .val (.ref b95), .val (.int (p0 &&& (15 : Int32))), .val (.ref w_9), .val (.int (1 : Int32)), .unset] [(.ref w_9)])) _
                      refine st177.trans ?_
                      show Steps p.tables e below (T177.setTop (mkF m 144 #[.val (.int p0), .val (.ref b95), .val (.int (p0 &&& (15 : Int32))), .val (.ref w_9), .val (.int (1 : Int32)), .unset] [(.int (1 : Int32))])) _
                      refine XS.istore X177.here hx rfl (hb hby at_144) rfl (l' := #[.val (.int p0), .val (.ref b95), .val (.int (p0 &&& (15 : Int32))), .val (.ref w_9), .val (.int (1 : Int32)), .val (.int (1 : Int32))]) rfl ?_
                      show Steps p.tables e below (T177.setTop (mkF m 146 #[.val (.int p0), .val (.ref b95), .val (.int (p0 &&& (15 : Int32))), .val (.ref w_9), .val (.int (1 : Int32)), .val (.int (1 : Int32))] [])) _
                      refine XS.iload X177.here hx rfl (hb hby at_146) rfl ?_
                      show Steps p.tables e below (T177.setTop (mkF m 148 #[.val (.int p0), .val (.ref b95), .val (.int (p0 &&& (15 : Int32))), .val (.ref w_9), .val (.int (1 : Int32)), .val (.int (1 : Int32))] [(.int (1 : Int32))])) _
                      refine XS.iload X177.here hx rfl (hb hby at_148) rfl ?_
                      show Steps p.tables e below (T177.setTop (mkF m 150 #[.val (.int p0), .val (.ref b95), .val (.int (p0 &&& (15 : Int32))), .val (.ref w_9), .val (.int (1 : Int32)), .val (.int (1 : Int32))] [(.int (1 : Int32)), (.int (1 : Int32))])) _
                      refine XS.icmpNo X177.here hx rfl (hb hby at_150) rfl (teq (by decide : ((1 : Int32) = (1 : Int32)))).2 ?_
                      show Steps p.tables e below (T177.setTop (mkF m 153 #[.val (.int p0), .val (.ref b95), .val (.int (p0 &&& (15 : Int32))), .val (.ref w_9), .val (.int (1 : Int32)), .val (.int (1 : Int32))] [])) _
                      refine XS.iload X177.here hx rfl (hb hby at_153) rfl ?_
                      show Steps p.tables e below (T177.setTop (mkF m 155 #[.val (.int p0), .val (.ref b95), .val (.int (p0 &&& (15 : Int32))), .val (.ref w_9), .val (.int (1 : Int32)), .val (.int (1 : Int32))] [(.int (1 : Int32))])) _
                      refine XS.ifNo X177.here hx rfl (hb hby at_155) rfl ((if0 _ _).trans (feq (by decide : ¬ ((1 : Int32) = (0 : Int32)))).1) ?_
                      show Steps p.tables e below (T177.setTop (mkF m 158 #[.val (.int p0), .val (.ref b95), .val (.int (p0 &&& (15 : Int32))), .val (.ref w_9), .val (.int (1 : Int32)), .val (.int (1 : Int32))] [])) _
                      refine XS.aloadN X177.here hx rfl (hb hby at_158) rfl rfl ?_
                      show Steps p.tables e below (T177.setTop (mkF m 159 #[.val (.int p0), .val (.ref b95), .val (.int (p0 &&& (15 : Int32))), .val (.ref w_9), .val (.int (1 : Int32)), .val (.int (1 : Int32))] [(.ref w_9)])) _
                      refine st179.trans ?_
                      show Steps p.tables e below (T179.setTop (mkF m 162 #[.val (.int p0), .val (.ref b95), .val (.int (p0 &&& (15 : Int32))), .val (.ref w_9), .val (.int (1 : Int32)), .val (.int (1 : Int32))] [(.int (nar .boolean (0 : Int32)))])) _
                      refine XS.ifNo X179.here hx rfl (hb hby at_162) rfl ((if0 _ _).trans (teq (by decide : ((nar .boolean (0 : Int32)) = (0 : Int32)))).2) ?_
                      show Steps p.tables e below (T179.setTop (mkF m 165 #[.val (.int p0), .val (.ref b95), .val (.int (p0 &&& (15 : Int32))), .val (.ref w_9), .val (.int (1 : Int32)), .val (.int (1 : Int32))] [])) _
                      refine XS.iconst X179.here hx rfl (hb hby at_165) ?_
                      show Steps p.tables e below (T179.setTop (mkF m 166 #[.val (.int p0), .val (.ref b95), .val (.int (p0 &&& (15 : Int32))), .val (.ref w_9), .val (.int (1 : Int32)), .val (.int (1 : Int32))] [(.int (1 : Int32))])) _
                      refine XS.goto X179.here hx rfl (pc0 := 166) (pc' := 170) rfl (hb hby at_166) (by decide) (by decide) ?_
                      show Steps p.tables e below (T179.setTop (mkF m 170 #[.val (.int p0), .val (.ref b95), .val (.int (p0 &&& (15 : Int32))), .val (.ref w_9), .val (.int (1 : Int32)), .val (.int (1 : Int32))] [(.int (1 : Int32))])) _
                      exact retN X179 hx (t := .boolean) Bd.returns (by simp) (hb hby at_170) hr
                    · show Q0 Z w_1 w_2 w_3 w_4 w_5 w_6 w_7 w_8 w_9 w_10 w_11 w_12 w_13 w_14 w_15 w_16 p0 h0 n0 _ T179.heap _
                      rw [e179]
                      exact ⟨by unfold sp0; rw [if_neg hc145, if_neg hc154, if_neg hc157, if_neg hc160, if_neg hc163, if_neg hc166, if_neg hc169, if_neg hc172, if_pos hc175], N179, trivial⟩
                  · by_cases hc180 : (p0 &&& (15 : Int32)) = (9 : Int32)
                    · obtain ⟨cl181, Ar181, qa181, Sa181, Ma181, Ha181, Ga181⟩ := id V_b95_143
                      have hin181 : ¬ ((p0 &&& (15 : Int32)) < 0 ∨ cl181.slots.size ≤ ((p0 &&& (15 : Int32))).toNatClampNeg) := by rw [hc180]; exact inb_of Sa181 ⟨by decide, by decide⟩
                      have hat181 : cl181.slots[((p0 &&& (15 : Int32))).toNatClampNeg]? = some (.ref w_10) := Has.at Ha181 hin181 (by rw [hc180]; rfl)
                      obtain ⟨cq182, kq182, q182a, q182b, q182c⟩ := isOf hZ e143 (E_10.ext O143.2)
                      obtain ⟨_, _, ⟨T182, L182, k182, n182⟩, -, X182, ⟨Lc182, hQ182, l182, y182, z182⟩, st182⟩ := X143.virtualBack hx (y := Y0) (z := Y0) hown (mvT hZ (hw _ (tk 36 rfl))) (mvT hZ (hw _ (tk 37 rfl))) (notFace_of_selects (args := #[]) (mvT hZ (hw _ (tk 39 rfl)))) (mvT hZ (hw _ (tk 39 rfl))) (mvT hZ (hw _ (tk 38 rfl))) (by decide) (backOf (W := 0) (rm1 l Z a0 hw [] w_1 w_2 w_3 w_4 w_5 w_6 w_7 w_8 w_9 w_10 w_11 w_12 w_13 w_14 w_15 w_16 hS0 w_10 h143 n0 O143) hZ (hw _ (tk 40 rfl)) (hw _ (tk 3 rfl)) (by decide) (by decide)) q182a q182c (g := (mkF m 141 #[.val (.int p0), .val (.ref b95), .val (.int (p0 &&& (15 : Int32))), .val (.ref w_10), .val (.int (1 : Int32)), .unset] [(.ref w_10)])) rfl (by rw [hml]; rfl) (Steps.refl _) (argsL := []) (rest := []) (lenOf pd_0 rfl) rfl (by show 2 * 0 + _ ≤ _; exact Nat.le_of_eq rfl) (hb hby at_141) (fun _ _ => ⟨rfl, e143, (by decide : 1 + 0 ≤ _), (by decide : 16 + 0 ≤ _)⟩)
                      dsimp only [Pt.U, Pt.locs, Pt.cells, Pt.slots] at X182 l182 y182 z182 st182 hQ182
                      subst l182 y182 z182
                      obtain ⟨rv182, N182q, e182⟩ := hQ182
                      rw [show sp1 w_9 w_10 w_10 = (1 : Int32) from by unfold sp1; rw [if_neg (Fld.ne F_10_ordinal F_9_ordinal (by decide)), if_pos rfl]] at rv182
                      subst rv182
                      have N182 := Fr.app N143 N182q
                      obtain ⟨cq183, kq183, q183a, q183b, q183c⟩ := isOf hZ e182 (E_10.ext O143.2)
                      obtain ⟨_, _, ⟨T183, L183, k183, n183⟩, -, X183, ⟨Lc183, hQ183, l183, y183, z183⟩, st183⟩ := X182.virtualBack hx (y := Y1) (z := Y1) hown (mvT hZ (hw _ (tk 43 rfl))) (mvT hZ (hw _ (tk 44 rfl))) (notFace_of_selects (args := #[]) (mvT hZ (hw _ (tk 46 rfl)))) (mvT hZ (hw _ (tk 46 rfl))) (mvT hZ (hw _ (tk 45 rfl))) (by decide) (backOf (W := 0) (rm2 l Z a0 hw [] w_1 w_2 w_3 w_4 w_5 w_6 w_7 w_8 w_9 w_10 w_11 w_12 w_13 w_14 w_15 w_16 hS0 w_10 (0 : Int32) h143 n0 O143 (F_10_comparison.ext O143.2)) hZ (hw _ (tk 47 rfl)) (hw _ (tk 3 rfl)) (by decide) (by decide)) q183a q183c (g := (mkF m 159 #[.val (.int p0), .val (.ref b95), .val (.int (p0 &&& (15 : Int32))), .val (.ref w_10), .val (.int (1 : Int32)), .val (.int (1 : Int32))] [(.ref w_10)])) rfl (by rw [hml]; rfl) (Steps.refl _) (argsL := []) (rest := []) (lenOf pd_0 rfl) rfl (by show 2 * 0 + _ ≤ _; exact Nat.le_of_eq rfl) (hb hby at_159) (fun _ _ => ⟨rfl, e182, (by decide : 1 + 0 ≤ _), (by decide : 16 + 0 ≤ _)⟩)
                      dsimp only [Pt.U, Pt.locs, Pt.cells, Pt.slots] at X183 l183 y183 z183 st183 hQ183
                      subst l183 y183 z183
                      obtain ⟨rv183, N183q, e183⟩ := hQ183
                      rw [show sp2 (0 : Int32) = (nar .boolean (0 : Int32)) from by unfold sp2; rfl] at rv183
                      subst rv183
                      have N183 := Fr.app N182 N183q
                      obtain ⟨fs, hr, hrun, hended, hW, hsame⟩ := X183.leave (v := some (.int (1 : Int32))) (fun h => by rw [Bd.returns] at h; cases h)
                      refine ⟨_, _, pre144 _ ?_, hrun, hended, _, _, rfl, ?_, ⟨_, rfl⟩, hW, hsame.mono (by decide) (by decide)⟩
                      · show Steps p.tables e below (T143.setTop (mkF m 119 #[.val (.int p0), .val (.ref b95), .val (.int (p0 &&& (15 : Int32))), .unset, .unset, .unset] [(.int (p0 &&& (15 : Int32))), (.ref b95)])) _
                        refine X143.aaload hx (j := (p0 &&& (15 : Int32))) (v := (.ref w_10)) (by rw [e143]; exact Ar181.1) (State.isArrayOf_alike hZ.alike Ar181.2.1) rfl Ar181.2.2 hin181 hat181 (g := (mkF m 119 #[.val (.int p0), .val (.ref b95), .val (.int (p0 &&& (15 : Int32))), .unset, .unset, .unset] [(.int (p0 &&& (15 : Int32))), (.ref b95)])) rfl rfl (hb hby at_119) _ ?_
                        show Steps p.tables e below (T143.setTop (mkF m 120 #[.val (.int p0), .val (.ref b95), .val (.int (p0 &&& (15 : Int32))), .unset, .unset, .unset] [(.ref w_10)])) _
                        refine XS.astoreN X143.here hx rfl (hb hby at_120) rfl rfl (l' := #[.val (.int p0), .val (.ref b95), .val (.int (p0 &&& (15 : Int32))), .val (.ref w_10), .unset, .unset]) rfl ?_
                        show Steps p.tables e below (T143.setTop (mkF m 121 #[.val (.int p0), .val (.ref b95), .val (.int (p0 &&& (15 : Int32))), .val (.ref w_10), .unset, .unset] [])) _
                        refine XS.iloadN X143.here hx rfl (hb hby at_121) rfl ?_
                        show Steps p.tables e below (T143.setTop (mkF m 122 #[.val (.int p0), .val (.ref b95), .val (.int (p0 &&& (15 : Int32))), .val (.ref w_10), .unset, .unset] [(.int (p0 &&& (15 : Int32)))])) _
                        refine XS.bipush X143.here hx rfl (hb hby at_122) ?_
                        show Steps p.tables e below (T143.setTop (mkF m 124 #[.val (.int p0), .val (.ref b95), .val (.int (p0 &&& (15 : Int32))), .val (.ref w_10), .unset, .unset] [(.int (8 : Int32)), (.int (p0 &&& (15 : Int32)))])) _
                        refine XS.icmpNo X143.here hx rfl (hb hby at_124) rfl (feq hc175).1 ?_
                        show Steps p.tables e below (T143.setTop (mkF m 127 #[.val (.int p0), .val (.ref b95), .val (.int (p0 &&& (15 : Int32))), .val (.ref w_10), .unset, .unset] [])) _
                        refine XS.iloadN X143.here hx rfl (hb hby at_127) rfl ?_
                        show Steps p.tables e below (T143.setTop (mkF m 128 #[.val (.int p0), .val (.ref b95), .val (.int (p0 &&& (15 : Int32))), .val (.ref w_10), .unset, .unset] [(.int (p0 &&& (15 : Int32)))])) _
                        refine XS.bipush X143.here hx rfl (hb hby at_128) ?_
                        show Steps p.tables e below (T143.setTop (mkF m 130 #[.val (.int p0), .val (.ref b95), .val (.int (p0 &&& (15 : Int32))), .val (.ref w_10), .unset, .unset] [(.int (9 : Int32)), (.int (p0 &&& (15 : Int32)))])) _
                        refine XS.icmpNo X143.here hx rfl (hb hby at_130) rfl (teq hc180).2 ?_
                        show Steps p.tables e below (T143.setTop (mkF m 133 #[.val (.int p0), .val (.ref b95), .val (.int (p0 &&& (15 : Int32))), .val (.ref w_10), .unset, .unset] [])) _
                        refine XS.iconst X143.here hx rfl (hb hby at_133) ?_
                        show Steps p.tables e below (T143.setTop (mkF m 134 #[.val (.int p0), .val (.ref b95), .val (.int (p0 &&& (15 : Int32))), .val (.ref w_10), .unset, .unset] [(.int (1 : Int32))])) _
                        refine XS.goto X143.here hx rfl (pc0 := 134) (pc' := 138) rfl (hb hby at_134) (by decide) (by decide) ?_
                        show Steps p.tables e below (T143.setTop (mkF m 138 #[.val (.int p0), .val (.ref b95), .val (.int (p0 &&& (15 : Int32))), .val (.ref w_10), .unset, .unset] [(.int (1 : Int32))])) _
                        refine XS.istore X143.here hx rfl (hb hby at_138) rfl (l' := #[.val (.int p0), .val (.ref b95), .val (.int (p0 &&& (15 : Int32))), .val (.ref w_10), .val (.int (1 : Int32)), .unset]) rfl ?_
                        show Steps p.tables e below (T143.setTop (mkF m 140 #[.val (.int p0), .val (.ref b95), .val (.int (p0 &&& (15 : Int32))), .val (.ref w_10), .val (.int (1 : Int32)), .unset] [])) _
                        refine XS.aloadN X143.here hx rfl (hb hby at_140) rfl rfl ?_
                        show Steps p.tables e below (T143.setTop (mkF m 141 #[.val (.int p0), .val (.ref b95), .val (.int (p0 &&& (15 : Int32))), .val (.ref w_10), .val (.int (1 : Int32)), .unset] [(.ref w_10)])) _
                        refine st182.trans ?_
                        show Steps p.tables e below (T182.setTop (mkF m 144 #[.val (.int p0), .val (.ref b95), .val (.int (p0 &&& (15 : Int32))), .val (.ref w_10), .val (.int (1 : Int32)), .unset] [(.int (1 : Int32))])) _
                        refine XS.istore X182.here hx rfl (hb hby at_144) rfl (l' := #[.val (.int p0), .val (.ref b95), .val (.int (p0 &&& (15 : Int32))), .val (.ref w_10), .val (.int (1 : Int32)), .val (.int (1 : Int32))]) rfl ?_
                        show Steps p.tables e below (T182.setTop (mkF m 146 #[.val (.int p0), .val (.ref b95), .val (.int (p0 &&& (15 : Int32))), .val (.ref w_10), .val (.int (1 : Int32)), .val (.int (1 : Int32))] [])) _
                        refine XS.iload X182.here hx rfl (hb hby at_146) rfl ?_
                        show Steps p.tables e below (T182.setTop (mkF m 148 #[.val (.int p0), .val (.ref b95), .val (.int (p0 &&& (15 : Int32))), .val (.ref w_10), .val (.int (1 : Int32)), .val (.int (1 : Int32))] [(.int (1 : Int32))])) _
                        refine XS.iload X182.here hx rfl (hb hby at_148) rfl ?_
                        show Steps p.tables e below (T182.setTop (mkF m 150 #[.val (.int p0), .val (.ref b95), .val (.int (p0 &&& (15 : Int32))), .val (.ref w_10), .val (.int (1 : Int32)), .val (.int (1 : Int32))] [(.int (1 : Int32)), (.int (1 : Int32))])) _
                        refine XS.icmpNo X182.here hx rfl (hb hby at_150) rfl (teq (by decide : ((1 : Int32) = (1 : Int32)))).2 ?_
                        show Steps p.tables e below (T182.setTop (mkF m 153 #[.val (.int p0), .val (.ref b95), .val (.int (p0 &&& (15 : Int32))), .val (.ref w_10), .val (.int (1 : Int32)), .val (.int (1 : Int32))] [])) _
                        refine XS.iload X182.here hx rfl (hb hby at_153) rfl ?_
                        show Steps p.tables e below (T182.setTop (mkF m 155 #[.val (.int p0), .val (.ref b95), .val (.int (p0 &&& (15 : Int32))), .val (.ref w_10), .val (.int (1 : Int32)), .val (.int (1 : Int32))] [(.int (1 : Int32))])) _
                        refine XS.ifNo X182.here hx rfl (hb hby at_155) rfl ((if0 _ _).trans (feq (by decide : ¬ ((1 : Int32) = (0 : Int32)))).1) ?_
                        show Steps p.tables e below (T182.setTop (mkF m 158 #[.val (.int p0), .val (.ref b95), .val (.int (p0 &&& (15 : Int32))), .val (.ref w_10), .val (.int (1 : Int32)), .val (.int (1 : Int32))] [])) _
                        refine XS.aloadN X182.here hx rfl (hb hby at_158) rfl rfl ?_
                        show Steps p.tables e below (T182.setTop (mkF m 159 #[.val (.int p0), .val (.ref b95), .val (.int (p0 &&& (15 : Int32))), .val (.ref w_10), .val (.int (1 : Int32)), .val (.int (1 : Int32))] [(.ref w_10)])) _
                        refine st183.trans ?_
                        show Steps p.tables e below (T183.setTop (mkF m 162 #[.val (.int p0), .val (.ref b95), .val (.int (p0 &&& (15 : Int32))), .val (.ref w_10), .val (.int (1 : Int32)), .val (.int (1 : Int32))] [(.int (nar .boolean (0 : Int32)))])) _
                        refine XS.ifNo X183.here hx rfl (hb hby at_162) rfl ((if0 _ _).trans (teq (by decide : ((nar .boolean (0 : Int32)) = (0 : Int32)))).2) ?_
                        show Steps p.tables e below (T183.setTop (mkF m 165 #[.val (.int p0), .val (.ref b95), .val (.int (p0 &&& (15 : Int32))), .val (.ref w_10), .val (.int (1 : Int32)), .val (.int (1 : Int32))] [])) _
                        refine XS.iconst X183.here hx rfl (hb hby at_165) ?_
                        show Steps p.tables e below (T183.setTop (mkF m 166 #[.val (.int p0), .val (.ref b95), .val (.int (p0 &&& (15 : Int32))), .val (.ref w_10), .val (.int (1 : Int32)), .val (.int (1 : Int32))] [(.int (1 : Int32))])) _
                        refine XS.goto X183.here hx rfl (pc0 := 166) (pc' := 170) rfl (hb hby at_166) (by decide) (by decide) ?_
                        show Steps p.tables e below (T183.setTop (mkF m 170 #[.val (.int p0), .val (.ref b95), .val (.int (p0 &&& (15 : Int32))), .val (.ref w_10), .val (.int (1 : Int32)), .val (.int (1 : Int32))] [(.int (1 : Int32))])) _
                        exact retN X183 hx (t := .boolean) Bd.returns (by simp) (hb hby at_170) hr
                      · show Q0 Z w_1 w_2 w_3 w_4 w_5 w_6 w_7 w_8 w_9 w_10 w_11 w_12 w_13 w_14 w_15 w_16 p0 h0 n0 _ T183.heap _
                        rw [e183]
                        exact ⟨by unfold sp0; rw [if_neg hc145, if_neg hc154, if_neg hc157, if_neg hc160, if_neg hc163, if_neg hc166, if_neg hc169, if_neg hc172, if_neg hc175, if_pos hc180], N183, trivial⟩
                    · by_cases hc184 : (p0 &&& (15 : Int32)) = (10 : Int32)
                      · obtain ⟨cl185, Ar185, qa185, Sa185, Ma185, Ha185, Ga185⟩ := id V_b95_143
                        have hin185 : ¬ ((p0 &&& (15 : Int32)) < 0 ∨ cl185.slots.size ≤ ((p0 &&& (15 : Int32))).toNatClampNeg) := by rw [hc184]; exact inb_of Sa185 ⟨by decide, by decide⟩
                        have hat185 : cl185.slots[((p0 &&& (15 : Int32))).toNatClampNeg]? = some (.ref w_11) := Has.at Ha185 hin185 (by rw [hc184]; rfl)
                        obtain ⟨cq186, kq186, q186a, q186b, q186c⟩ := isOf hZ e143 (E_11.ext O143.2)
                        obtain ⟨_, _, ⟨T186, L186, k186, n186⟩, -, X186, ⟨Lc186, hQ186, l186, y186, z186⟩, st186⟩ := X143.virtualBack hx (y := Y0) (z := Y0) hown (mvT hZ (hw _ (tk 36 rfl))) (mvT hZ (hw _ (tk 37 rfl))) (notFace_of_selects (args := #[]) (mvT hZ (hw _ (tk 39 rfl)))) (mvT hZ (hw _ (tk 39 rfl))) (mvT hZ (hw _ (tk 38 rfl))) (by decide) (backOf (W := 0) (rm1 l Z a0 hw [] w_1 w_2 w_3 w_4 w_5 w_6 w_7 w_8 w_9 w_10 w_11 w_12 w_13 w_14 w_15 w_16 hS0 w_11 h143 n0 O143) hZ (hw _ (tk 40 rfl)) (hw _ (tk 3 rfl)) (by decide) (by decide)) q186a q186c (g := (mkF m 141 #[.val (.int p0), .val (.ref b95), .val (.int (p0 &&& (15 : Int32))), .val (.ref w_11), .val (.int (0 : Int32)), .unset] [(.ref w_11)])) rfl (by rw [hml]; rfl) (Steps.refl _) (argsL := []) (rest := []) (lenOf pd_0 rfl) rfl (by show 2 * 0 + _ ≤ _; exact Nat.le_of_eq rfl) (hb hby at_141) (fun _ _ => ⟨rfl, e143, (by decide : 1 + 0 ≤ _), (by decide : 16 + 0 ≤ _)⟩)
                        dsimp only [Pt.U, Pt.locs, Pt.cells, Pt.slots] at X186 l186 y186 z186 st186 hQ186
                        subst l186 y186 z186
                        obtain ⟨rv186, N186q, e186⟩ := hQ186
                        rw [show sp1 w_9 w_10 w_11 = (0 : Int32) from by unfold sp1; rw [if_neg (Fld.ne F_11_ordinal F_9_ordinal (by decide)), if_neg (Fld.ne F_11_ordinal F_10_ordinal (by decide))]] at rv186
                        subst rv186
                        have N186 := Fr.app N143 N186q
                        obtain ⟨fs, hr, hrun, hended, hW, hsame⟩ := X186.leave (v := some (.int (1 : Int32))) (fun h => by rw [Bd.returns] at h; cases h)
                        refine ⟨_, _, pre144 _ ?_, hrun, hended, _, _, rfl, ?_, ⟨_, rfl⟩, hW, hsame.mono (by decide) (by decide)⟩
                        · show Steps p.tables e below (T143.setTop (mkF m 119 #[.val (.int p0), .val (.ref b95), .val (.int (p0 &&& (15 : Int32))), .unset, .unset, .unset] [(.int (p0 &&& (15 : Int32))), (.ref b95)])) _
                          refine X143.aaload hx (j := (p0 &&& (15 : Int32))) (v := (.ref w_11)) (by rw [e143]; exact Ar185.1) (State.isArrayOf_alike hZ.alike Ar185.2.1) rfl Ar185.2.2 hin185 hat185 (g := (mkF m 119 #[.val (.int p0), .val (.ref b95), .val (.int (p0 &&& (15 : Int32))), .unset, .unset, .unset] [(.int (p0 &&& (15 : Int32))), (.ref b95)])) rfl rfl (hb hby at_119) _ ?_
                          show Steps p.tables e below (T143.setTop (mkF m 120 #[.val (.int p0), .val (.ref b95), .val (.int (p0 &&& (15 : Int32))), .unset, .unset, .unset] [(.ref w_11)])) _
                          refine XS.astoreN X143.here hx rfl (hb hby at_120) rfl rfl (l' := #[.val (.int p0), .val (.ref b95), .val (.int (p0 &&& (15 : Int32))), .val (.ref w_11), .unset, .unset]) rfl ?_
                          show Steps p.tables e below (T143.setTop (mkF m 121 #[.val (.int p0), .val (.ref b95), .val (.int (p0 &&& (15 : Int32))), .val (.ref w_11), .unset, .unset] [])) _
                          refine XS.iloadN X143.here hx rfl (hb hby at_121) rfl ?_
                          show Steps p.tables e below (T143.setTop (mkF m 122 #[.val (.int p0), .val (.ref b95), .val (.int (p0 &&& (15 : Int32))), .val (.ref w_11), .unset, .unset] [(.int (p0 &&& (15 : Int32)))])) _
                          refine XS.bipush X143.here hx rfl (hb hby at_122) ?_
                          show Steps p.tables e below (T143.setTop (mkF m 124 #[.val (.int p0), .val (.ref b95), .val (.int (p0 &&& (15 : Int32))), .val (.ref w_11), .unset, .unset] [(.int (8 : Int32)), (.int (p0 &&& (15 : Int32)))])) _
                          refine XS.icmpNo X143.here hx rfl (hb hby at_124) rfl (feq hc175).1 ?_
                          show Steps p.tables e below (T143.setTop (mkF m 127 #[.val (.int p0), .val (.ref b95), .val (.int (p0 &&& (15 : Int32))), .val (.ref w_11), .unset, .unset] [])) _
                          refine XS.iloadN X143.here hx rfl (hb hby at_127) rfl ?_
                          show Steps p.tables e below (T143.setTop (mkF m 128 #[.val (.int p0), .val (.ref b95), .val (.int (p0 &&& (15 : Int32))), .val (.ref w_11), .unset, .unset] [(.int (p0 &&& (15 : Int32)))])) _
                          refine XS.bipush X143.here hx rfl (hb hby at_128) ?_
                          show Steps p.tables e below (T143.setTop (mkF m 130 #[.val (.int p0), .val (.ref b95), .val (.int (p0 &&& (15 : Int32))), .val (.ref w_11), .unset, .unset] [(.int (9 : Int32)), (.int (p0 &&& (15 : Int32)))])) _
                          refine XS.icmpYes X143.here hx rfl (pc0 := 130) (pc' := 137) rfl (hb hby at_130) rfl (feq hc180).2 (by decide) (by decide) ?_
                          show Steps p.tables e below (T143.setTop (mkF m 137 #[.val (.int p0), .val (.ref b95), .val (.int (p0 &&& (15 : Int32))), .val (.ref w_11), .unset, .unset] [])) _
                          refine XS.iconst X143.here hx rfl (hb hby at_137) ?_
                          show Steps p.tables e below (T143.setTop (mkF m 138 #[.val (.int p0), .val (.ref b95), .val (.int (p0 &&& (15 : Int32))), .val (.ref w_11), .unset, .unset] [(.int (0 : Int32))])) _
                          refine XS.istore X143.here hx rfl (hb hby at_138) rfl (l' := #[.val (.int p0), .val (.ref b95), .val (.int (p0 &&& (15 : Int32))), .val (.ref w_11), .val (.int (0 : Int32)), .unset]) rfl ?_
                          show Steps p.tables e below (T143.setTop (mkF m 140 #[.val (.int p0), .val (.ref b95), .val (.int (p0 &&& (15 : Int32))), .val (.ref w_11), .val (.int (0 : Int32)), .unset] [])) _
                          refine XS.aloadN X143.here hx rfl (hb hby at_140) rfl rfl ?_
                          show Steps p.tables e below (T143.setTop (mkF m 141 #[.val (.int p0), .val (.ref b95), .val (.int (p0 &&& (15 : Int32))), .val (.ref w_11), .val (.int (0 : Int32)), .unset] [(.ref w_11)])) _
                          refine st186.trans ?_
                          show Steps p.tables e below (T186.setTop (mkF m 144 #[.val (.int p0), .val (.ref b95), .val (.int (p0 &&& (15 : Int32))), .val (.ref w_11), .val (.int (0 : Int32)), .unset] [(.int (0 : Int32))])) _
                          refine XS.istore X186.here hx rfl (hb hby at_144) rfl (l' := #[.val (.int p0), .val (.ref b95), .val (.int (p0 &&& (15 : Int32))), .val (.ref w_11), .val (.int (0 : Int32)), .val (.int (0 : Int32))]) rfl ?_
                          show Steps p.tables e below (T186.setTop (mkF m 146 #[.val (.int p0), .val (.ref b95), .val (.int (p0 &&& (15 : Int32))), .val (.ref w_11), .val (.int (0 : Int32)), .val (.int (0 : Int32))] [])) _
                          refine XS.iload X186.here hx rfl (hb hby at_146) rfl ?_
                          show Steps p.tables e below (T186.setTop (mkF m 148 #[.val (.int p0), .val (.ref b95), .val (.int (p0 &&& (15 : Int32))), .val (.ref w_11), .val (.int (0 : Int32)), .val (.int (0 : Int32))] [(.int (0 : Int32))])) _
                          refine XS.iload X186.here hx rfl (hb hby at_148) rfl ?_
                          show Steps p.tables e below (T186.setTop (mkF m 150 #[.val (.int p0), .val (.ref b95), .val (.int (p0 &&& (15 : Int32))), .val (.ref w_11), .val (.int (0 : Int32)), .val (.int (0 : Int32))] [(.int (0 : Int32)), (.int (0 : Int32))])) _
                          refine XS.icmpNo X186.here hx rfl (hb hby at_150) rfl (teq (by decide : ((0 : Int32) = (0 : Int32)))).2 ?_
                          show Steps p.tables e below (T186.setTop (mkF m 153 #[.val (.int p0), .val (.ref b95), .val (.int (p0 &&& (15 : Int32))), .val (.ref w_11), .val (.int (0 : Int32)), .val (.int (0 : Int32))] [])) _
                          refine XS.iload X186.here hx rfl (hb hby at_153) rfl ?_
                          show Steps p.tables e below (T186.setTop (mkF m 155 #[.val (.int p0), .val (.ref b95), .val (.int (p0 &&& (15 : Int32))), .val (.ref w_11), .val (.int (0 : Int32)), .val (.int (0 : Int32))] [(.int (0 : Int32))])) _
                          refine XS.ifYes X186.here hx rfl (pc0 := 155) (pc' := 165) rfl (hb hby at_155) rfl ((if0 _ _).trans (teq (by decide : ((0 : Int32) = (0 : Int32)))).1) (by decide) (by decide) ?_
                          show Steps p.tables e below (T186.setTop (mkF m 165 #[.val (.int p0), .val (.ref b95), .val (.int (p0 &&& (15 : Int32))), .val (.ref w_11), .val (.int (0 : Int32)), .val (.int (0 : Int32))] [])) _
                          refine XS.iconst X186.here hx rfl (hb hby at_165) ?_
                          show Steps p.tables e below (T186.setTop (mkF m 166 #[.val (.int p0), .val (.ref b95), .val (.int (p0 &&& (15 : Int32))), .val (.ref w_11), .val (.int (0 : Int32)), .val (.int (0 : Int32))] [(.int (1 : Int32))])) _
                          refine XS.goto X186.here hx rfl (pc0 := 166) (pc' := 170) rfl (hb hby at_166) (by decide) (by decide) ?_
                          show Steps p.tables e below (T186.setTop (mkF m 170 #[.val (.int p0), .val (.ref b95), .val (.int (p0 &&& (15 : Int32))), .val (.ref w_11), .val (.int (0 : Int32)), .val (.int (0 : Int32))] [(.int (1 : Int32))])) _
                          exact retN X186 hx (t := .boolean) Bd.returns (by simp) (hb hby at_170) hr
                        · show Q0 Z w_1 w_2 w_3 w_4 w_5 w_6 w_7 w_8 w_9 w_10 w_11 w_12 w_13 w_14 w_15 w_16 p0 h0 n0 _ T186.heap _
                          rw [e186]
                          exact ⟨by unfold sp0; rw [if_neg hc145, if_neg hc154, if_neg hc157, if_neg hc160, if_neg hc163, if_neg hc166, if_neg hc169, if_neg hc172, if_neg hc175, if_neg hc180, if_pos hc184], N186, trivial⟩
                      · by_cases hc187 : (p0 &&& (15 : Int32)) = (11 : Int32)
                        · obtain ⟨cl188, Ar188, qa188, Sa188, Ma188, Ha188, Ga188⟩ := id V_b95_143
                          have hin188 : ¬ ((p0 &&& (15 : Int32)) < 0 ∨ cl188.slots.size ≤ ((p0 &&& (15 : Int32))).toNatClampNeg) := by rw [hc187]; exact inb_of Sa188 ⟨by decide, by decide⟩
                          have hat188 : cl188.slots[((p0 &&& (15 : Int32))).toNatClampNeg]? = some (.ref w_12) := Has.at Ha188 hin188 (by rw [hc187]; rfl)
                          obtain ⟨cq189, kq189, q189a, q189b, q189c⟩ := isOf hZ e143 (E_12.ext O143.2)
                          obtain ⟨_, _, ⟨T189, L189, k189, n189⟩, -, X189, ⟨Lc189, hQ189, l189, y189, z189⟩, st189⟩ := X143.virtualBack hx (y := Y0) (z := Y0) hown (mvT hZ (hw _ (tk 36 rfl))) (mvT hZ (hw _ (tk 37 rfl))) (notFace_of_selects (args := #[]) (mvT hZ (hw _ (tk 39 rfl)))) (mvT hZ (hw _ (tk 39 rfl))) (mvT hZ (hw _ (tk 38 rfl))) (by decide) (backOf (W := 0) (rm1 l Z a0 hw [] w_1 w_2 w_3 w_4 w_5 w_6 w_7 w_8 w_9 w_10 w_11 w_12 w_13 w_14 w_15 w_16 hS0 w_12 h143 n0 O143) hZ (hw _ (tk 40 rfl)) (hw _ (tk 3 rfl)) (by decide) (by decide)) q189a q189c (g := (mkF m 141 #[.val (.int p0), .val (.ref b95), .val (.int (p0 &&& (15 : Int32))), .val (.ref w_12), .val (.int (0 : Int32)), .unset] [(.ref w_12)])) rfl (by rw [hml]; rfl) (Steps.refl _) (argsL := []) (rest := []) (lenOf pd_0 rfl) rfl (by show 2 * 0 + _ ≤ _; exact Nat.le_of_eq rfl) (hb hby at_141) (fun _ _ => ⟨rfl, e143, (by decide : 1 + 0 ≤ _), (by decide : 16 + 0 ≤ _)⟩)
                          dsimp only [Pt.U, Pt.locs, Pt.cells, Pt.slots] at X189 l189 y189 z189 st189 hQ189
                          subst l189 y189 z189
                          obtain ⟨rv189, N189q, e189⟩ := hQ189
                          rw [show sp1 w_9 w_10 w_12 = (0 : Int32) from by unfold sp1; rw [if_neg (Fld.ne F_12_ordinal F_9_ordinal (by decide)), if_neg (Fld.ne F_12_ordinal F_10_ordinal (by decide))]] at rv189
                          subst rv189
                          have N189 := Fr.app N143 N189q
                          obtain ⟨fs, hr, hrun, hended, hW, hsame⟩ := X189.leave (v := some (.int (1 : Int32))) (fun h => by rw [Bd.returns] at h; cases h)
                          refine ⟨_, _, pre144 _ ?_, hrun, hended, _, _, rfl, ?_, ⟨_, rfl⟩, hW, hsame.mono (by decide) (by decide)⟩
                          · show Steps p.tables e below (T143.setTop (mkF m 119 #[.val (.int p0), .val (.ref b95), .val (.int (p0 &&& (15 : Int32))), .unset, .unset, .unset] [(.int (p0 &&& (15 : Int32))), (.ref b95)])) _
                            refine X143.aaload hx (j := (p0 &&& (15 : Int32))) (v := (.ref w_12)) (by rw [e143]; exact Ar188.1) (State.isArrayOf_alike hZ.alike Ar188.2.1) rfl Ar188.2.2 hin188 hat188 (g := (mkF m 119 #[.val (.int p0), .val (.ref b95), .val (.int (p0 &&& (15 : Int32))), .unset, .unset, .unset] [(.int (p0 &&& (15 : Int32))), (.ref b95)])) rfl rfl (hb hby at_119) _ ?_
                            show Steps p.tables e below (T143.setTop (mkF m 120 #[.val (.int p0), .val (.ref b95), .val (.int (p0 &&& (15 : Int32))), .unset, .unset, .unset] [(.ref w_12)])) _
                            refine XS.astoreN X143.here hx rfl (hb hby at_120) rfl rfl (l' := #[.val (.int p0), .val (.ref b95), .val (.int (p0 &&& (15 : Int32))), .val (.ref w_12), .unset, .unset]) rfl ?_
                            show Steps p.tables e below (T143.setTop (mkF m 121 #[.val (.int p0), .val (.ref b95), .val (.int (p0 &&& (15 : Int32))), .val (.ref w_12), .unset, .unset] [])) _
                            refine XS.iloadN X143.here hx rfl (hb hby at_121) rfl ?_
                            show Steps p.tables e below (T143.setTop (mkF m 122 #[.val (.int p0), .val (.ref b95), .val (.int (p0 &&& (15 : Int32))), .val (.ref w_12), .unset, .unset] [(.int (p0 &&& (15 : Int32)))])) _
                            refine XS.bipush X143.here hx rfl (hb hby at_122) ?_
                            show Steps p.tables e below (T143.setTop (mkF m 124 #[.val (.int p0), .val (.ref b95), .val (.int (p0 &&& (15 : Int32))), .val (.ref w_12), .unset, .unset] [(.int (8 : Int32)), (.int (p0 &&& (15 : Int32)))])) _
                            refine XS.icmpNo X143.here hx rfl (hb hby at_124) rfl (feq hc175).1 ?_
                            show Steps p.tables e below (T143.setTop (mkF m 127 #[.val (.int p0), .val (.ref b95), .val (.int (p0 &&& (15 : Int32))), .val (.ref w_12), .unset, .unset] [])) _
                            refine XS.iloadN X143.here hx rfl (hb hby at_127) rfl ?_
                            show Steps p.tables e below (T143.setTop (mkF m 128 #[.val (.int p0), .val (.ref b95), .val (.int (p0 &&& (15 : Int32))), .val (.ref w_12), .unset, .unset] [(.int (p0 &&& (15 : Int32)))])) _
                            refine XS.bipush X143.here hx rfl (hb hby at_128) ?_
                            show Steps p.tables e below (T143.setTop (mkF m 130 #[.val (.int p0), .val (.ref b95), .val (.int (p0 &&& (15 : Int32))), .val (.ref w_12), .unset, .unset] [(.int (9 : Int32)), (.int (p0 &&& (15 : Int32)))])) _
                            refine XS.icmpYes X143.here hx rfl (pc0 := 130) (pc' := 137) rfl (hb hby at_130) rfl (feq hc180).2 (by decide) (by decide) ?_
                            show Steps p.tables e below (T143.setTop (mkF m 137 #[.val (.int p0), .val (.ref b95), .val (.int (p0 &&& (15 : Int32))), .val (.ref w_12), .unset, .unset] [])) _
                            refine XS.iconst X143.here hx rfl (hb hby at_137) ?_
                            show Steps p.tables e below (T143.setTop (mkF m 138 #[.val (.int p0), .val (.ref b95), .val (.int (p0 &&& (15 : Int32))), .val (.ref w_12), .unset, .unset] [(.int (0 : Int32))])) _
                            refine XS.istore X143.here hx rfl (hb hby at_138) rfl (l' := #[.val (.int p0), .val (.ref b95), .val (.int (p0 &&& (15 : Int32))), .val (.ref w_12), .val (.int (0 : Int32)), .unset]) rfl ?_
                            show Steps p.tables e below (T143.setTop (mkF m 140 #[.val (.int p0), .val (.ref b95), .val (.int (p0 &&& (15 : Int32))), .val (.ref w_12), .val (.int (0 : Int32)), .unset] [])) _
                            refine XS.aloadN X143.here hx rfl (hb hby at_140) rfl rfl ?_
                            show Steps p.tables e below (T143.setTop (mkF m 141 #[.val (.int p0), .val (.ref b95), .val (.int (p0 &&& (15 : Int32))), .val (.ref w_12), .val (.int (0 : Int32)), .unset] [(.ref w_12)])) _
                            refine st189.trans ?_
                            show Steps p.tables e below (T189.setTop (mkF m 144 #[.val (.int p0), .val (.ref b95), .val (.int (p0 &&& (15 : Int32))), .val (.ref w_12), .val (.int (0 : Int32)), .unset] [(.int (0 : Int32))])) _
                            refine XS.istore X189.here hx rfl (hb hby at_144) rfl (l' := #[.val (.int p0), .val (.ref b95), .val (.int (p0 &&& (15 : Int32))), .val (.ref w_12), .val (.int (0 : Int32)), .val (.int (0 : Int32))]) rfl ?_
                            show Steps p.tables e below (T189.setTop (mkF m 146 #[.val (.int p0), .val (.ref b95), .val (.int (p0 &&& (15 : Int32))), .val (.ref w_12), .val (.int (0 : Int32)), .val (.int (0 : Int32))] [])) _
                            refine XS.iload X189.here hx rfl (hb hby at_146) rfl ?_
                            show Steps p.tables e below (T189.setTop (mkF m 148 #[.val (.int p0), .val (.ref b95), .val (.int (p0 &&& (15 : Int32))), .val (.ref w_12), .val (.int (0 : Int32)), .val (.int (0 : Int32))] [(.int (0 : Int32))])) _
                            refine XS.iload X189.here hx rfl (hb hby at_148) rfl ?_
                            show Steps p.tables e below (T189.setTop (mkF m 150 #[.val (.int p0), .val (.ref b95), .val (.int (p0 &&& (15 : Int32))), .val (.ref w_12), .val (.int (0 : Int32)), .val (.int (0 : Int32))] [(.int (0 : Int32)), (.int (0 : Int32))])) _
                            refine XS.icmpNo X189.here hx rfl (hb hby at_150) rfl (teq (by decide : ((0 : Int32) = (0 : Int32)))).2 ?_
                            show Steps p.tables e below (T189.setTop (mkF m 153 #[.val (.int p0), .val (.ref b95), .val (.int (p0 &&& (15 : Int32))), .val (.ref w_12), .val (.int (0 : Int32)), .val (.int (0 : Int32))] [])) _
                            refine XS.iload X189.here hx rfl (hb hby at_153) rfl ?_
                            show Steps p.tables e below (T189.setTop (mkF m 155 #[.val (.int p0), .val (.ref b95), .val (.int (p0 &&& (15 : Int32))), .val (.ref w_12), .val (.int (0 : Int32)), .val (.int (0 : Int32))] [(.int (0 : Int32))])) _
                            refine XS.ifYes X189.here hx rfl (pc0 := 155) (pc' := 165) rfl (hb hby at_155) rfl ((if0 _ _).trans (teq (by decide : ((0 : Int32) = (0 : Int32)))).1) (by decide) (by decide) ?_
                            show Steps p.tables e below (T189.setTop (mkF m 165 #[.val (.int p0), .val (.ref b95), .val (.int (p0 &&& (15 : Int32))), .val (.ref w_12), .val (.int (0 : Int32)), .val (.int (0 : Int32))] [])) _
                            refine XS.iconst X189.here hx rfl (hb hby at_165) ?_
                            show Steps p.tables e below (T189.setTop (mkF m 166 #[.val (.int p0), .val (.ref b95), .val (.int (p0 &&& (15 : Int32))), .val (.ref w_12), .val (.int (0 : Int32)), .val (.int (0 : Int32))] [(.int (1 : Int32))])) _
                            refine XS.goto X189.here hx rfl (pc0 := 166) (pc' := 170) rfl (hb hby at_166) (by decide) (by decide) ?_
                            show Steps p.tables e below (T189.setTop (mkF m 170 #[.val (.int p0), .val (.ref b95), .val (.int (p0 &&& (15 : Int32))), .val (.ref w_12), .val (.int (0 : Int32)), .val (.int (0 : Int32))] [(.int (1 : Int32))])) _
                            exact retN X189 hx (t := .boolean) Bd.returns (by simp) (hb hby at_170) hr
                          · show Q0 Z w_1 w_2 w_3 w_4 w_5 w_6 w_7 w_8 w_9 w_10 w_11 w_12 w_13 w_14 w_15 w_16 p0 h0 n0 _ T189.heap _
                            rw [e189]
                            exact ⟨by unfold sp0; rw [if_neg hc145, if_neg hc154, if_neg hc157, if_neg hc160, if_neg hc163, if_neg hc166, if_neg hc169, if_neg hc172, if_neg hc175, if_neg hc180, if_neg hc184, if_pos hc187], N189, trivial⟩
                        · by_cases hc190 : (p0 &&& (15 : Int32)) = (12 : Int32)
                          · obtain ⟨cl191, Ar191, qa191, Sa191, Ma191, Ha191, Ga191⟩ := id V_b95_143
                            have hin191 : ¬ ((p0 &&& (15 : Int32)) < 0 ∨ cl191.slots.size ≤ ((p0 &&& (15 : Int32))).toNatClampNeg) := by rw [hc190]; exact inb_of Sa191 ⟨by decide, by decide⟩
                            have hat191 : cl191.slots[((p0 &&& (15 : Int32))).toNatClampNeg]? = some (.ref w_13) := Has.at Ha191 hin191 (by rw [hc190]; rfl)
                            obtain ⟨cq192, kq192, q192a, q192b, q192c⟩ := isOf hZ e143 (E_13.ext O143.2)
                            obtain ⟨_, _, ⟨T192, L192, k192, n192⟩, -, X192, ⟨Lc192, hQ192, l192, y192, z192⟩, st192⟩ := X143.virtualBack hx (y := Y0) (z := Y0) hown (mvT hZ (hw _ (tk 36 rfl))) (mvT hZ (hw _ (tk 37 rfl))) (notFace_of_selects (args := #[]) (mvT hZ (hw _ (tk 39 rfl)))) (mvT hZ (hw _ (tk 39 rfl))) (mvT hZ (hw _ (tk 38 rfl))) (by decide) (backOf (W := 0) (rm1 l Z a0 hw [] w_1 w_2 w_3 w_4 w_5 w_6 w_7 w_8 w_9 w_10 w_11 w_12 w_13 w_14 w_15 w_16 hS0 w_13 h143 n0 O143) hZ (hw _ (tk 40 rfl)) (hw _ (tk 3 rfl)) (by decide) (by decide)) q192a q192c (g := (mkF m 141 #[.val (.int p0), .val (.ref b95), .val (.int (p0 &&& (15 : Int32))), .val (.ref w_13), .val (.int (0 : Int32)), .unset] [(.ref w_13)])) rfl (by rw [hml]; rfl) (Steps.refl _) (argsL := []) (rest := []) (lenOf pd_0 rfl) rfl (by show 2 * 0 + _ ≤ _; exact Nat.le_of_eq rfl) (hb hby at_141) (fun _ _ => ⟨rfl, e143, (by decide : 1 + 0 ≤ _), (by decide : 16 + 0 ≤ _)⟩)
                            dsimp only [Pt.U, Pt.locs, Pt.cells, Pt.slots] at X192 l192 y192 z192 st192 hQ192
                            subst l192 y192 z192
                            obtain ⟨rv192, N192q, e192⟩ := hQ192
                            rw [show sp1 w_9 w_10 w_13 = (0 : Int32) from by unfold sp1; rw [if_neg (Fld.ne F_13_ordinal F_9_ordinal (by decide)), if_neg (Fld.ne F_13_ordinal F_10_ordinal (by decide))]] at rv192
                            subst rv192
                            have N192 := Fr.app N143 N192q
                            obtain ⟨fs, hr, hrun, hended, hW, hsame⟩ := X192.leave (v := some (.int (1 : Int32))) (fun h => by rw [Bd.returns] at h; cases h)
                            refine ⟨_, _, pre144 _ ?_, hrun, hended, _, _, rfl, ?_, ⟨_, rfl⟩, hW, hsame.mono (by decide) (by decide)⟩
                            · show Steps p.tables e below (T143.setTop (mkF m 119 #[.val (.int p0), .val (.ref b95), .val (.int (p0 &&& (15 : Int32))), .unset, .unset, .unset] [(.int (p0 &&& (15 : Int32))), (.ref b95)])) _
                              refine X143.aaload hx (j := (p0 &&& (15 : Int32))) (v := (.ref w_13)) (by rw [e143]; exact Ar191.1) (State.isArrayOf_alike hZ.alike Ar191.2.1) rfl Ar191.2.2 hin191 hat191 (g := (mkF m 119 #[.val (.int p0), .val (.ref b95), .val (.int (p0 &&& (15 : Int32))), .unset, .unset, .unset] [(.int (p0 &&& (15 : Int32))), (.ref b95)])) rfl rfl (hb hby at_119) _ ?_
                              show Steps p.tables e below (T143.setTop (mkF m 120 #[.val (.int p0), .val (.ref b95), .val (.int (p0 &&& (15 : Int32))), .unset, .unset, .unset] [(.ref w_13)])) _
                              refine XS.astoreN X143.here hx rfl (hb hby at_120) rfl rfl (l' := #[.val (.int p0), .val (.ref b95), .val (.int (p0 &&& (15 : Int32))), .val (.ref w_13), .unset, .unset]) rfl ?_
                              show Steps p.tables e below (T143.setTop (mkF m 121 #[.val (.int p0), .val (.ref b95), .val (.int (p0 &&& (15 : Int32))), .val (.ref w_13), .unset, .unset] [])) _
                              refine XS.iloadN X143.here hx rfl (hb hby at_121) rfl ?_
                              show Steps p.tables e below (T143.setTop (mkF m 122 #[.val (.int p0), .val (.ref b95), .val (.int (p0 &&& (15 : Int32))), .val (.ref w_13), .unset, .unset] [(.int (p0 &&& (15 : Int32)))])) _
                              refine XS.bipush X143.here hx rfl (hb hby at_122) ?_
                              show Steps p.tables e below (T143.setTop (mkF m 124 #[.val (.int p0), .val (.ref b95), .val (.int (p0 &&& (15 : Int32))), .val (.ref w_13), .unset, .unset] [(.int (8 : Int32)), (.int (p0 &&& (15 : Int32)))])) _
                              refine XS.icmpNo X143.here hx rfl (hb hby at_124) rfl (feq hc175).1 ?_
                              show Steps p.tables e below (T143.setTop (mkF m 127 #[.val (.int p0), .val (.ref b95), .val (.int (p0 &&& (15 : Int32))), .val (.ref w_13), .unset, .unset] [])) _
                              refine XS.iloadN X143.here hx rfl (hb hby at_127) rfl ?_
                              show Steps p.tables e below (T143.setTop (mkF m 128 #[.val (.int p0), .val (.ref b95), .val (.int (p0 &&& (15 : Int32))), .val (.ref w_13), .unset, .unset] [(.int (p0 &&& (15 : Int32)))])) _
                              refine XS.bipush X143.here hx rfl (hb hby at_128) ?_
                              show Steps p.tables e below (T143.setTop (mkF m 130 #[.val (.int p0), .val (.ref b95), .val (.int (p0 &&& (15 : Int32))), .val (.ref w_13), .unset, .unset] [(.int (9 : Int32)), (.int (p0 &&& (15 : Int32)))])) _
                              refine XS.icmpYes X143.here hx rfl (pc0 := 130) (pc' := 137) rfl (hb hby at_130) rfl (feq hc180).2 (by decide) (by decide) ?_
                              show Steps p.tables e below (T143.setTop (mkF m 137 #[.val (.int p0), .val (.ref b95), .val (.int (p0 &&& (15 : Int32))), .val (.ref w_13), .unset, .unset] [])) _
                              refine XS.iconst X143.here hx rfl (hb hby at_137) ?_
                              show Steps p.tables e below (T143.setTop (mkF m 138 #[.val (.int p0), .val (.ref b95), .val (.int (p0 &&& (15 : Int32))), .val (.ref w_13), .unset, .unset] [(.int (0 : Int32))])) _
                              refine XS.istore X143.here hx rfl (hb hby at_138) rfl (l' := #[.val (.int p0), .val (.ref b95), .val (.int (p0 &&& (15 : Int32))), .val (.ref w_13), .val (.int (0 : Int32)), .unset]) rfl ?_
                              show Steps p.tables e below (T143.setTop (mkF m 140 #[.val (.int p0), .val (.ref b95), .val (.int (p0 &&& (15 : Int32))), .val (.ref w_13), .val (.int (0 : Int32)), .unset] [])) _
                              refine XS.aloadN X143.here hx rfl (hb hby at_140) rfl rfl ?_
                              show Steps p.tables e below (T143.setTop (mkF m 141 #[.val (.int p0), .val (.ref b95), .val (.int (p0 &&& (15 : Int32))), .val (.ref w_13), .val (.int (0 : Int32)), .unset] [(.ref w_13)])) _
                              refine st192.trans ?_
                              show Steps p.tables e below (T192.setTop (mkF m 144 #[.val (.int p0), .val (.ref b95), .val (.int (p0 &&& (15 : Int32))), .val (.ref w_13), .val (.int (0 : Int32)), .unset] [(.int (0 : Int32))])) _
                              refine XS.istore X192.here hx rfl (hb hby at_144) rfl (l' := #[.val (.int p0), .val (.ref b95), .val (.int (p0 &&& (15 : Int32))), .val (.ref w_13), .val (.int (0 : Int32)), .val (.int (0 : Int32))]) rfl ?_
                              show Steps p.tables e below (T192.setTop (mkF m 146 #[.val (.int p0), .val (.ref b95), .val (.int (p0 &&& (15 : Int32))), .val (.ref w_13), .val (.int (0 : Int32)), .val (.int (0 : Int32))] [])) _
                              refine XS.iload X192.here hx rfl (hb hby at_146) rfl ?_
                              show Steps p.tables e below (T192.setTop (mkF m 148 #[.val (.int p0), .val (.ref b95), .val (.int (p0 &&& (15 : Int32))), .val (.ref w_13), .val (.int (0 : Int32)), .val (.int (0 : Int32))] [(.int (0 : Int32))])) _
                              refine XS.iload X192.here hx rfl (hb hby at_148) rfl ?_
                              show Steps p.tables e below (T192.setTop (mkF m 150 #[.val (.int p0), .val (.ref b95), .val (.int (p0 &&& (15 : Int32))), .val (.ref w_13), .val (.int (0 : Int32)), .val (.int (0 : Int32))] [(.int (0 : Int32)), (.int (0 : Int32))])) _
                              refine XS.icmpNo X192.here hx rfl (hb hby at_150) rfl (teq (by decide : ((0 : Int32) = (0 : Int32)))).2 ?_
                              show Steps p.tables e below (T192.setTop (mkF m 153 #[.val (.int p0), .val (.ref b95), .val (.int (p0 &&& (15 : Int32))), .val (.ref w_13), .val (.int (0 : Int32)), .val (.int (0 : Int32))] [])) _
                              refine XS.iload X192.here hx rfl (hb hby at_153) rfl ?_
                              show Steps p.tables e below (T192.setTop (mkF m 155 #[.val (.int p0), .val (.ref b95), .val (.int (p0 &&& (15 : Int32))), .val (.ref w_13), .val (.int (0 : Int32)), .val (.int (0 : Int32))] [(.int (0 : Int32))])) _
                              refine XS.ifYes X192.here hx rfl (pc0 := 155) (pc' := 165) rfl (hb hby at_155) rfl ((if0 _ _).trans (teq (by decide : ((0 : Int32) = (0 : Int32)))).1) (by decide) (by decide) ?_
                              show Steps p.tables e below (T192.setTop (mkF m 165 #[.val (.int p0), .val (.ref b95), .val (.int (p0 &&& (15 : Int32))), .val (.ref w_13), .val (.int (0 : Int32)), .val (.int (0 : Int32))] [])) _
                              refine XS.iconst X192.here hx rfl (hb hby at_165) ?_
                              show Steps p.tables e below (T192.setTop (mkF m 166 #[.val (.int p0), .val (.ref b95), .val (.int (p0 &&& (15 : Int32))), .val (.ref w_13), .val (.int (0 : Int32)), .val (.int (0 : Int32))] [(.int (1 : Int32))])) _
                              refine XS.goto X192.here hx rfl (pc0 := 166) (pc' := 170) rfl (hb hby at_166) (by decide) (by decide) ?_
                              show Steps p.tables e below (T192.setTop (mkF m 170 #[.val (.int p0), .val (.ref b95), .val (.int (p0 &&& (15 : Int32))), .val (.ref w_13), .val (.int (0 : Int32)), .val (.int (0 : Int32))] [(.int (1 : Int32))])) _
                              exact retN X192 hx (t := .boolean) Bd.returns (by simp) (hb hby at_170) hr
                            · show Q0 Z w_1 w_2 w_3 w_4 w_5 w_6 w_7 w_8 w_9 w_10 w_11 w_12 w_13 w_14 w_15 w_16 p0 h0 n0 _ T192.heap _
                              rw [e192]
                              exact ⟨by unfold sp0; rw [if_neg hc145, if_neg hc154, if_neg hc157, if_neg hc160, if_neg hc163, if_neg hc166, if_neg hc169, if_neg hc172, if_neg hc175, if_neg hc180, if_neg hc184, if_neg hc187, if_pos hc190], N192, trivial⟩
                          · by_cases hc193 : (p0 &&& (15 : Int32)) = (13 : Int32)
                            · obtain ⟨cl194, Ar194, qa194, Sa194, Ma194, Ha194, Ga194⟩ := id V_b95_143
                              have hin194 : ¬ ((p0 &&& (15 : Int32)) < 0 ∨ cl194.slots.size ≤ ((p0 &&& (15 : Int32))).toNatClampNeg) := by rw [hc193]; exact inb_of Sa194 ⟨by decide, by decide⟩
                              have hat194 : cl194.slots[((p0 &&& (15 : Int32))).toNatClampNeg]? = some (.ref w_14) := Has.at Ha194 hin194 (by rw [hc193]; rfl)
                              obtain ⟨cq195, kq195, q195a, q195b, q195c⟩ := isOf hZ e143 (E_14.ext O143.2)
                              obtain ⟨_, _, ⟨T195, L195, k195, n195⟩, -, X195, ⟨Lc195, hQ195, l195, y195, z195⟩, st195⟩ := X143.virtualBack hx (y := Y0) (z := Y0) hown (mvT hZ (hw _ (tk 36 rfl))) (mvT hZ (hw _ (tk 37 rfl))) (notFace_of_selects (args := #[]) (mvT hZ (hw _ (tk 39 rfl)))) (mvT hZ (hw _ (tk 39 rfl))) (mvT hZ (hw _ (tk 38 rfl))) (by decide) (backOf (W := 0) (rm1 l Z a0 hw [] w_1 w_2 w_3 w_4 w_5 w_6 w_7 w_8 w_9 w_10 w_11 w_12 w_13 w_14 w_15 w_16 hS0 w_14 h143 n0 O143) hZ (hw _ (tk 40 rfl)) (hw _ (tk 3 rfl)) (by decide) (by decide)) q195a q195c (g := (mkF m 141 #[.val (.int p0), .val (.ref b95), .val (.int (p0 &&& (15 : Int32))), .val (.ref w_14), .val (.int (0 : Int32)), .unset] [(.ref w_14)])) rfl (by rw [hml]; rfl) (Steps.refl _) (argsL := []) (rest := []) (lenOf pd_0 rfl) rfl (by show 2 * 0 + _ ≤ _; exact Nat.le_of_eq rfl) (hb hby at_141) (fun _ _ => ⟨rfl, e143, (by decide : 1 + 0 ≤ _), (by decide : 16 + 0 ≤ _)⟩)
                              dsimp only [Pt.U, Pt.locs, Pt.cells, Pt.slots] at X195 l195 y195 z195 st195 hQ195
                              subst l195 y195 z195
                              obtain ⟨rv195, N195q, e195⟩ := hQ195
                              rw [show sp1 w_9 w_10 w_14 = (0 : Int32) from by unfold sp1; rw [if_neg (Fld.ne F_14_ordinal F_9_ordinal (by decide)), if_neg (Fld.ne F_14_ordinal F_10_ordinal (by decide))]] at rv195
                              subst rv195
                              have N195 := Fr.app N143 N195q
                              obtain ⟨fs, hr, hrun, hended, hW, hsame⟩ := X195.leave (v := some (.int (1 : Int32))) (fun h => by rw [Bd.returns] at h; cases h)
                              refine ⟨_, _, pre144 _ ?_, hrun, hended, _, _, rfl, ?_, ⟨_, rfl⟩, hW, hsame.mono (by decide) (by decide)⟩
                              · show Steps p.tables e below (T143.setTop (mkF m 119 #[.val (.int p0), .val (.ref b95), .val (.int (p0 &&& (15 : Int32))), .unset, .unset, .unset] [(.int (p0 &&& (15 : Int32))), (.ref b95)])) _
                                refine X143.aaload hx (j := (p0 &&& (15 : Int32))) (v := (.ref w_14)) (by rw [e143]; exact Ar194.1) (State.isArrayOf_alike hZ.alike Ar194.2.1) rfl Ar194.2.2 hin194 hat194 (g := (mkF m 119 #[.val (.int p0), .val (.ref b95), .val (.int (p0 &&& (15 : Int32))), .unset, .unset, .unset] [(.int (p0 &&& (15 : Int32))), (.ref b95)])) rfl rfl (hb hby at_119) _ ?_
                                show Steps p.tables e below (T143.setTop (mkF m 120 #[.val (.int p0), .val (.ref b95), .val (.int (p0 &&& (15 : Int32))), .unset, .unset, .unset] [(.ref w_14)])) _
                                refine XS.astoreN X143.here hx rfl (hb hby at_120) rfl rfl (l' := #[.val (.int p0), .val (.ref b95), .val (.int (p0 &&& (15 : Int32))), .val (.ref w_14), .unset, .unset]) rfl ?_
                                show Steps p.tables e below (T143.setTop (mkF m 121 #[.val (.int p0), .val (.ref b95), .val (.int (p0 &&& (15 : Int32))), .val (.ref w_14), .unset, .unset] [])) _
                                refine XS.iloadN X143.here hx rfl (hb hby at_121) rfl ?_
                                show Steps p.tables e below (T143.setTop (mkF m 122 #[.val (.int p0), .val (.ref b95), .val (.int (p0 &&& (15 : Int32))), .val (.ref w_14), .unset, .unset] [(.int (p0 &&& (15 : Int32)))])) _
                                refine XS.bipush X143.here hx rfl (hb hby at_122) ?_
                                show Steps p.tables e below (T143.setTop (mkF m 124 #[.val (.int p0), .val (.ref b95), .val (.int (p0 &&& (15 : Int32))), .val (.ref w_14), .unset, .unset] [(.int (8 : Int32)), (.int (p0 &&& (15 : Int32)))])) _
                                refine XS.icmpNo X143.here hx rfl (hb hby at_124) rfl (feq hc175).1 ?_
                                show Steps p.tables e below (T143.setTop (mkF m 127 #[.val (.int p0), .val (.ref b95), .val (.int (p0 &&& (15 : Int32))), .val (.ref w_14), .unset, .unset] [])) _
                                refine XS.iloadN X143.here hx rfl (hb hby at_127) rfl ?_
                                show Steps p.tables e below (T143.setTop (mkF m 128 #[.val (.int p0), .val (.ref b95), .val (.int (p0 &&& (15 : Int32))), .val (.ref w_14), .unset, .unset] [(.int (p0 &&& (15 : Int32)))])) _
                                refine XS.bipush X143.here hx rfl (hb hby at_128) ?_
                                show Steps p.tables e below (T143.setTop (mkF m 130 #[.val (.int p0), .val (.ref b95), .val (.int (p0 &&& (15 : Int32))), .val (.ref w_14), .unset, .unset] [(.int (9 : Int32)), (.int (p0 &&& (15 : Int32)))])) _
                                refine XS.icmpYes X143.here hx rfl (pc0 := 130) (pc' := 137) rfl (hb hby at_130) rfl (feq hc180).2 (by decide) (by decide) ?_
                                show Steps p.tables e below (T143.setTop (mkF m 137 #[.val (.int p0), .val (.ref b95), .val (.int (p0 &&& (15 : Int32))), .val (.ref w_14), .unset, .unset] [])) _
                                refine XS.iconst X143.here hx rfl (hb hby at_137) ?_
                                show Steps p.tables e below (T143.setTop (mkF m 138 #[.val (.int p0), .val (.ref b95), .val (.int (p0 &&& (15 : Int32))), .val (.ref w_14), .unset, .unset] [(.int (0 : Int32))])) _
                                refine XS.istore X143.here hx rfl (hb hby at_138) rfl (l' := #[.val (.int p0), .val (.ref b95), .val (.int (p0 &&& (15 : Int32))), .val (.ref w_14), .val (.int (0 : Int32)), .unset]) rfl ?_
                                show Steps p.tables e below (T143.setTop (mkF m 140 #[.val (.int p0), .val (.ref b95), .val (.int (p0 &&& (15 : Int32))), .val (.ref w_14), .val (.int (0 : Int32)), .unset] [])) _
                                refine XS.aloadN X143.here hx rfl (hb hby at_140) rfl rfl ?_
                                show Steps p.tables e below (T143.setTop (mkF m 141 #[.val (.int p0), .val (.ref b95), .val (.int (p0 &&& (15 : Int32))), .val (.ref w_14), .val (.int (0 : Int32)), .unset] [(.ref w_14)])) _
                                refine st195.trans ?_
                                show Steps p.tables e below (T195.setTop (mkF m 144 #[.val (.int p0), .val (.ref b95), .val (.int (p0 &&& (15 : Int32))), .val (.ref w_14), .val (.int (0 : Int32)), .unset] [(.int (0 : Int32))])) _
                                refine XS.istore X195.here hx rfl (hb hby at_144) rfl (l' := #[.val (.int p0), .val (.ref b95), .val (.int (p0 &&& (15 : Int32))), .val (.ref w_14), .val (.int (0 : Int32)), .val (.int (0 : Int32))]) rfl ?_
                                show Steps p.tables e below (T195.setTop (mkF m 146 #[.val (.int p0), .val (.ref b95), .val (.int (p0 &&& (15 : Int32))), .val (.ref w_14), .val (.int (0 : Int32)), .val (.int (0 : Int32))] [])) _
                                refine XS.iload X195.here hx rfl (hb hby at_146) rfl ?_
                                show Steps p.tables e below (T195.setTop (mkF m 148 #[.val (.int p0), .val (.ref b95), .val (.int (p0 &&& (15 : Int32))), .val (.ref w_14), .val (.int (0 : Int32)), .val (.int (0 : Int32))] [(.int (0 : Int32))])) _
                                refine XS.iload X195.here hx rfl (hb hby at_148) rfl ?_
                                show Steps p.tables e below (T195.setTop (mkF m 150 #[.val (.int p0), .val (.ref b95), .val (.int (p0 &&& (15 : Int32))), .val (.ref w_14), .val (.int (0 : Int32)), .val (.int (0 : Int32))] [(.int (0 : Int32)), (.int (0 : Int32))])) _
                                refine XS.icmpNo X195.here hx rfl (hb hby at_150) rfl (teq (by decide : ((0 : Int32) = (0 : Int32)))).2 ?_
                                show Steps p.tables e below (T195.setTop (mkF m 153 #[.val (.int p0), .val (.ref b95), .val (.int (p0 &&& (15 : Int32))), .val (.ref w_14), .val (.int (0 : Int32)), .val (.int (0 : Int32))] [])) _
                                refine XS.iload X195.here hx rfl (hb hby at_153) rfl ?_
                                show Steps p.tables e below (T195.setTop (mkF m 155 #[.val (.int p0), .val (.ref b95), .val (.int (p0 &&& (15 : Int32))), .val (.ref w_14), .val (.int (0 : Int32)), .val (.int (0 : Int32))] [(.int (0 : Int32))])) _
                                refine XS.ifYes X195.here hx rfl (pc0 := 155) (pc' := 165) rfl (hb hby at_155) rfl ((if0 _ _).trans (teq (by decide : ((0 : Int32) = (0 : Int32)))).1) (by decide) (by decide) ?_
                                show Steps p.tables e below (T195.setTop (mkF m 165 #[.val (.int p0), .val (.ref b95), .val (.int (p0 &&& (15 : Int32))), .val (.ref w_14), .val (.int (0 : Int32)), .val (.int (0 : Int32))] [])) _
                                refine XS.iconst X195.here hx rfl (hb hby at_165) ?_
                                show Steps p.tables e below (T195.setTop (mkF m 166 #[.val (.int p0), .val (.ref b95), .val (.int (p0 &&& (15 : Int32))), .val (.ref w_14), .val (.int (0 : Int32)), .val (.int (0 : Int32))] [(.int (1 : Int32))])) _
                                refine XS.goto X195.here hx rfl (pc0 := 166) (pc' := 170) rfl (hb hby at_166) (by decide) (by decide) ?_
                                show Steps p.tables e below (T195.setTop (mkF m 170 #[.val (.int p0), .val (.ref b95), .val (.int (p0 &&& (15 : Int32))), .val (.ref w_14), .val (.int (0 : Int32)), .val (.int (0 : Int32))] [(.int (1 : Int32))])) _
                                exact retN X195 hx (t := .boolean) Bd.returns (by simp) (hb hby at_170) hr
                              · show Q0 Z w_1 w_2 w_3 w_4 w_5 w_6 w_7 w_8 w_9 w_10 w_11 w_12 w_13 w_14 w_15 w_16 p0 h0 n0 _ T195.heap _
                                rw [e195]
                                exact ⟨by unfold sp0; rw [if_neg hc145, if_neg hc154, if_neg hc157, if_neg hc160, if_neg hc163, if_neg hc166, if_neg hc169, if_neg hc172, if_neg hc175, if_neg hc180, if_neg hc184, if_neg hc187, if_neg hc190, if_pos hc193], N195, trivial⟩
                            · by_cases hc196 : (p0 &&& (15 : Int32)) = (14 : Int32)
                              · obtain ⟨cl197, Ar197, qa197, Sa197, Ma197, Ha197, Ga197⟩ := id V_b95_143
                                have hin197 : ¬ ((p0 &&& (15 : Int32)) < 0 ∨ cl197.slots.size ≤ ((p0 &&& (15 : Int32))).toNatClampNeg) := by rw [hc196]; exact inb_of Sa197 ⟨by decide, by decide⟩
                                have hat197 : cl197.slots[((p0 &&& (15 : Int32))).toNatClampNeg]? = some (.ref w_15) := Has.at Ha197 hin197 (by rw [hc196]; rfl)
                                obtain ⟨cq198, kq198, q198a, q198b, q198c⟩ := isOf hZ e143 (E_15.ext O143.2)
                                obtain ⟨_, _, ⟨T198, L198, k198, n198⟩, -, X198, ⟨Lc198, hQ198, l198, y198, z198⟩, st198⟩ := X143.virtualBack hx (y := Y0) (z := Y0) hown (mvT hZ (hw _ (tk 36 rfl))) (mvT hZ (hw _ (tk 37 rfl))) (notFace_of_selects (args := #[]) (mvT hZ (hw _ (tk 39 rfl)))) (mvT hZ (hw _ (tk 39 rfl))) (mvT hZ (hw _ (tk 38 rfl))) (by decide) (backOf (W := 0) (rm1 l Z a0 hw [] w_1 w_2 w_3 w_4 w_5 w_6 w_7 w_8 w_9 w_10 w_11 w_12 w_13 w_14 w_15 w_16 hS0 w_15 h143 n0 O143) hZ (hw _ (tk 40 rfl)) (hw _ (tk 3 rfl)) (by decide) (by decide)) q198a q198c (g := (mkF m 141 #[.val (.int p0), .val (.ref b95), .val (.int (p0 &&& (15 : Int32))), .val (.ref w_15), .val (.int (0 : Int32)), .unset] [(.ref w_15)])) rfl (by rw [hml]; rfl) (Steps.refl _) (argsL := []) (rest := []) (lenOf pd_0 rfl) rfl (by show 2 * 0 + _ ≤ _; exact Nat.le_of_eq rfl) (hb hby at_141) (fun _ _ => ⟨rfl, e143, (by decide : 1 + 0 ≤ _), (by decide : 16 + 0 ≤ _)⟩)
                                dsimp only [Pt.U, Pt.locs, Pt.cells, Pt.slots] at X198 l198 y198 z198 st198 hQ198
                                subst l198 y198 z198
                                obtain ⟨rv198, N198q, e198⟩ := hQ198
                                rw [show sp1 w_9 w_10 w_15 = (0 : Int32) from by unfold sp1; rw [if_neg (Fld.ne F_15_ordinal F_9_ordinal (by decide)), if_neg (Fld.ne F_15_ordinal F_10_ordinal (by decide))]] at rv198
                                subst rv198
                                have N198 := Fr.app N143 N198q
                                obtain ⟨fs, hr, hrun, hended, hW, hsame⟩ := X198.leave (v := some (.int (1 : Int32))) (fun h => by rw [Bd.returns] at h; cases h)
                                refine ⟨_, _, pre144 _ ?_, hrun, hended, _, _, rfl, ?_, ⟨_, rfl⟩, hW, hsame.mono (by decide) (by decide)⟩
                                · show Steps p.tables e below (T143.setTop (mkF m 119 #[.val (.int p0), .val (.ref b95), .val (.int (p0 &&& (15 : Int32))), .unset, .unset, .unset] [(.int (p0 &&& (15 : Int32))), (.ref b95)])) _
                                  refine X143.aaload hx (j := (p0 &&& (15 : Int32))) (v := (.ref w_15)) (by rw [e143]; exact Ar197.1) (State.isArrayOf_alike hZ.alike Ar197.2.1) rfl Ar197.2.2 hin197 hat197 (g := (mkF m 119 #[.val (.int p0), .val (.ref b95), .val (.int (p0 &&& (15 : Int32))), .unset, .unset, .unset] [(.int (p0 &&& (15 : Int32))), (.ref b95)])) rfl rfl (hb hby at_119) _ ?_
                                  show Steps p.tables e below (T143.setTop (mkF m 120 #[.val (.int p0), .val (.ref b95), .val (.int (p0 &&& (15 : Int32))), .unset, .unset, .unset] [(.ref w_15)])) _
                                  refine XS.astoreN X143.here hx rfl (hb hby at_120) rfl rfl (l' := #[.val (.int p0), .val (.ref b95), .val (.int (p0 &&& (15 : Int32))), .val (.ref w_15), .unset, .unset]) rfl ?_
                                  show Steps p.tables e below (T143.setTop (mkF m 121 #[.val (.int p0), .val (.ref b95), .val (.int (p0 &&& (15 : Int32))), .val (.ref w_15), .unset, .unset] [])) _
                                  refine XS.iloadN X143.here hx rfl (hb hby at_121) rfl ?_
                                  show Steps p.tables e below (T143.setTop (mkF m 122 #[.val (.int p0), .val (.ref b95), .val (.int (p0 &&& (15 : Int32))), .val (.ref w_15), .unset, .unset] [(.int (p0 &&& (15 : Int32)))])) _
                                  refine XS.bipush X143.here hx rfl (hb hby at_122) ?_
                                  show Steps p.tables e below (T143.setTop (mkF m 124 #[.val (.int p0), .val (.ref b95), .val (.int (p0 &&& (15 : Int32))), .val (.ref w_15), .unset, .unset] [(.int (8 : Int32)), (.int (p0 &&& (15 : Int32)))])) _
                                  refine XS.icmpNo X143.here hx rfl (hb hby at_124) rfl (feq hc175).1 ?_
                                  show Steps p.tables e below (T143.setTop (mkF m 127 #[.val (.int p0), .val (.ref b95), .val (.int (p0 &&& (15 : Int32))), .val (.ref w_15), .unset, .unset] [])) _
                                  refine XS.iloadN X143.here hx rfl (hb hby at_127) rfl ?_
                                  show Steps p.tables e below (T143.setTop (mkF m 128 #[.val (.int p0), .val (.ref b95), .val (.int (p0 &&& (15 : Int32))), .val (.ref w_15), .unset, .unset] [(.int (p0 &&& (15 : Int32)))])) _
                                  refine XS.bipush X143.here hx rfl (hb hby at_128) ?_
                                  show Steps p.tables e below (T143.setTop (mkF m 130 #[.val (.int p0), .val (.ref b95), .val (.int (p0 &&& (15 : Int32))), .val (.ref w_15), .unset, .unset] [(.int (9 : Int32)), (.int (p0 &&& (15 : Int32)))])) _
                                  refine XS.icmpYes X143.here hx rfl (pc0 := 130) (pc' := 137) rfl (hb hby at_130) rfl (feq hc180).2 (by decide) (by decide) ?_
                                  show Steps p.tables e below (T143.setTop (mkF m 137 #[.val (.int p0), .val (.ref b95), .val (.int (p0 &&& (15 : Int32))), .val (.ref w_15), .unset, .unset] [])) _
                                  refine XS.iconst X143.here hx rfl (hb hby at_137) ?_
                                  show Steps p.tables e below (T143.setTop (mkF m 138 #[.val (.int p0), .val (.ref b95), .val (.int (p0 &&& (15 : Int32))), .val (.ref w_15), .unset, .unset] [(.int (0 : Int32))])) _
                                  refine XS.istore X143.here hx rfl (hb hby at_138) rfl (l' := #[.val (.int p0), .val (.ref b95), .val (.int (p0 &&& (15 : Int32))), .val (.ref w_15), .val (.int (0 : Int32)), .unset]) rfl ?_
                                  show Steps p.tables e below (T143.setTop (mkF m 140 #[.val (.int p0), .val (.ref b95), .val (.int (p0 &&& (15 : Int32))), .val (.ref w_15), .val (.int (0 : Int32)), .unset] [])) _
                                  refine XS.aloadN X143.here hx rfl (hb hby at_140) rfl rfl ?_
                                  show Steps p.tables e below (T143.setTop (mkF m 141 #[.val (.int p0), .val (.ref b95), .val (.int (p0 &&& (15 : Int32))), .val (.ref w_15), .val (.int (0 : Int32)), .unset] [(.ref w_15)])) _
                                  refine st198.trans ?_
                                  show Steps p.tables e below (T198.setTop (mkF m 144 #[.val (.int p0), .val (.ref b95), .val (.int (p0 &&& (15 : Int32))), .val (.ref w_15), .val (.int (0 : Int32)), .unset] [(.int (0 : Int32))])) _
                                  refine XS.istore X198.here hx rfl (hb hby at_144) rfl (l' := #[.val (.int p0), .val (.ref b95), .val (.int (p0 &&& (15 : Int32))), .val (.ref w_15), .val (.int (0 : Int32)), .val (.int (0 : Int32))]) rfl ?_
                                  show Steps p.tables e below (T198.setTop (mkF m 146 #[.val (.int p0), .val (.ref b95), .val (.int (p0 &&& (15 : Int32))), .val (.ref w_15), .val (.int (0 : Int32)), .val (.int (0 : Int32))] [])) _
                                  refine XS.iload X198.here hx rfl (hb hby at_146) rfl ?_
                                  show Steps p.tables e below (T198.setTop (mkF m 148 #[.val (.int p0), .val (.ref b95), .val (.int (p0 &&& (15 : Int32))), .val (.ref w_15), .val (.int (0 : Int32)), .val (.int (0 : Int32))] [(.int (0 : Int32))])) _
                                  refine XS.iload X198.here hx rfl (hb hby at_148) rfl ?_
                                  show Steps p.tables e below (T198.setTop (mkF m 150 #[.val (.int p0), .val (.ref b95), .val (.int (p0 &&& (15 : Int32))), .val (.ref w_15), .val (.int (0 : Int32)), .val (.int (0 : Int32))] [(.int (0 : Int32)), (.int (0 : Int32))])) _
                                  refine XS.icmpNo X198.here hx rfl (hb hby at_150) rfl (teq (by decide : ((0 : Int32) = (0 : Int32)))).2 ?_
                                  show Steps p.tables e below (T198.setTop (mkF m 153 #[.val (.int p0), .val (.ref b95), .val (.int (p0 &&& (15 : Int32))), .val (.ref w_15), .val (.int (0 : Int32)), .val (.int (0 : Int32))] [])) _
                                  refine XS.iload X198.here hx rfl (hb hby at_153) rfl ?_
                                  show Steps p.tables e below (T198.setTop (mkF m 155 #[.val (.int p0), .val (.ref b95), .val (.int (p0 &&& (15 : Int32))), .val (.ref w_15), .val (.int (0 : Int32)), .val (.int (0 : Int32))] [(.int (0 : Int32))])) _
                                  refine XS.ifYes X198.here hx rfl (pc0 := 155) (pc' := 165) rfl (hb hby at_155) rfl ((if0 _ _).trans (teq (by decide : ((0 : Int32) = (0 : Int32)))).1) (by decide) (by decide) ?_
                                  show Steps p.tables e below (T198.setTop (mkF m 165 #[.val (.int p0), .val (.ref b95), .val (.int (p0 &&& (15 : Int32))), .val (.ref w_15), .val (.int (0 : Int32)), .val (.int (0 : Int32))] [])) _
                                  refine XS.iconst X198.here hx rfl (hb hby at_165) ?_
                                  show Steps p.tables e below (T198.setTop (mkF m 166 #[.val (.int p0), .val (.ref b95), .val (.int (p0 &&& (15 : Int32))), .val (.ref w_15), .val (.int (0 : Int32)), .val (.int (0 : Int32))] [(.int (1 : Int32))])) _
                                  refine XS.goto X198.here hx rfl (pc0 := 166) (pc' := 170) rfl (hb hby at_166) (by decide) (by decide) ?_
                                  show Steps p.tables e below (T198.setTop (mkF m 170 #[.val (.int p0), .val (.ref b95), .val (.int (p0 &&& (15 : Int32))), .val (.ref w_15), .val (.int (0 : Int32)), .val (.int (0 : Int32))] [(.int (1 : Int32))])) _
                                  exact retN X198 hx (t := .boolean) Bd.returns (by simp) (hb hby at_170) hr
                                · show Q0 Z w_1 w_2 w_3 w_4 w_5 w_6 w_7 w_8 w_9 w_10 w_11 w_12 w_13 w_14 w_15 w_16 p0 h0 n0 _ T198.heap _
                                  rw [e198]
                                  exact ⟨by unfold sp0; rw [if_neg hc145, if_neg hc154, if_neg hc157, if_neg hc160, if_neg hc163, if_neg hc166, if_neg hc169, if_neg hc172, if_neg hc175, if_neg hc180, if_neg hc184, if_neg hc187, if_neg hc190, if_neg hc193, if_pos hc196], N198, trivial⟩
                              · have hL199 : (p0 &&& (15 : Int32)) = (15 : Int32) := by
                                  have r : 0 ≤ ((p0 &&& (15 : Int32))).toInt ∧ ((p0 &&& (15 : Int32))).toInt < 16 := (own_rand p0 (15 : Int32) 16 (by decide) (by decide))
                                  have q0 := own_ne hc145 (n := 0) (by decide)
                                  have q1 := own_ne hc154 (n := 1) (by decide)
                                  have q2 := own_ne hc157 (n := 2) (by decide)
                                  have q3 := own_ne hc160 (n := 3) (by decide)
                                  have q4 := own_ne hc163 (n := 4) (by decide)
                                  have q5 := own_ne hc166 (n := 5) (by decide)
                                  have q6 := own_ne hc169 (n := 6) (by decide)
                                  have q7 := own_ne hc172 (n := 7) (by decide)
                                  have q8 := own_ne hc175 (n := 8) (by decide)
                                  have q9 := own_ne hc180 (n := 9) (by decide)
                                  have q10 := own_ne hc184 (n := 10) (by decide)
                                  have q11 := own_ne hc187 (n := 11) (by decide)
                                  have q12 := own_ne hc190 (n := 12) (by decide)
                                  have q13 := own_ne hc193 (n := 13) (by decide)
                                  have q14 := own_ne hc196 (n := 14) (by decide)
                                  exact own_eq (n := 15) (by decide) (by omega)
                                obtain ⟨cl200, Ar200, qa200, Sa200, Ma200, Ha200, Ga200⟩ := id V_b95_143
                                have hin200 : ¬ ((p0 &&& (15 : Int32)) < 0 ∨ cl200.slots.size ≤ ((p0 &&& (15 : Int32))).toNatClampNeg) := by rw [hL199]; exact inb_of Sa200 ⟨by decide, by decide⟩
                                have hat200 : cl200.slots[((p0 &&& (15 : Int32))).toNatClampNeg]? = some (.ref w_16) := Has.at Ha200 hin200 (by rw [hL199]; rfl)
                                obtain ⟨cq201, kq201, q201a, q201b, q201c⟩ := isOf hZ e143 (E_16.ext O143.2)
                                obtain ⟨_, _, ⟨T201, L201, k201, n201⟩, -, X201, ⟨Lc201, hQ201, l201, y201, z201⟩, st201⟩ := X143.virtualBack hx (y := Y0) (z := Y0) hown (mvT hZ (hw _ (tk 36 rfl))) (mvT hZ (hw _ (tk 37 rfl))) (notFace_of_selects (args := #[]) (mvT hZ (hw _ (tk 39 rfl)))) (mvT hZ (hw _ (tk 39 rfl))) (mvT hZ (hw _ (tk 38 rfl))) (by decide) (backOf (W := 0) (rm1 l Z a0 hw [] w_1 w_2 w_3 w_4 w_5 w_6 w_7 w_8 w_9 w_10 w_11 w_12 w_13 w_14 w_15 w_16 hS0 w_16 h143 n0 O143) hZ (hw _ (tk 40 rfl)) (hw _ (tk 3 rfl)) (by decide) (by decide)) q201a q201c (g := (mkF m 141 #[.val (.int p0), .val (.ref b95), .val (.int (p0 &&& (15 : Int32))), .val (.ref w_16), .val (.int (0 : Int32)), .unset] [(.ref w_16)])) rfl (by rw [hml]; rfl) (Steps.refl _) (argsL := []) (rest := []) (lenOf pd_0 rfl) rfl (by show 2 * 0 + _ ≤ _; exact Nat.le_of_eq rfl) (hb hby at_141) (fun _ _ => ⟨rfl, e143, (by decide : 1 + 0 ≤ _), (by decide : 16 + 0 ≤ _)⟩)
                                dsimp only [Pt.U, Pt.locs, Pt.cells, Pt.slots] at X201 l201 y201 z201 st201 hQ201
                                subst l201 y201 z201
                                obtain ⟨rv201, N201q, e201⟩ := hQ201
                                rw [show sp1 w_9 w_10 w_16 = (0 : Int32) from by unfold sp1; rw [if_neg (Fld.ne F_16_ordinal F_9_ordinal (by decide)), if_neg (Fld.ne F_16_ordinal F_10_ordinal (by decide))]] at rv201
                                subst rv201
                                have N201 := Fr.app N143 N201q
                                obtain ⟨fs, hr, hrun, hended, hW, hsame⟩ := X201.leave (v := some (.int (1 : Int32))) (fun h => by rw [Bd.returns] at h; cases h)
                                refine ⟨_, _, pre144 _ ?_, hrun, hended, _, _, rfl, ?_, ⟨_, rfl⟩, hW, hsame.mono (by decide) (by decide)⟩
                                · show Steps p.tables e below (T143.setTop (mkF m 119 #[.val (.int p0), .val (.ref b95), .val (.int (p0 &&& (15 : Int32))), .unset, .unset, .unset] [(.int (p0 &&& (15 : Int32))), (.ref b95)])) _
                                  refine X143.aaload hx (j := (p0 &&& (15 : Int32))) (v := (.ref w_16)) (by rw [e143]; exact Ar200.1) (State.isArrayOf_alike hZ.alike Ar200.2.1) rfl Ar200.2.2 hin200 hat200 (g := (mkF m 119 #[.val (.int p0), .val (.ref b95), .val (.int (p0 &&& (15 : Int32))), .unset, .unset, .unset] [(.int (p0 &&& (15 : Int32))), (.ref b95)])) rfl rfl (hb hby at_119) _ ?_
                                  show Steps p.tables e below (T143.setTop (mkF m 120 #[.val (.int p0), .val (.ref b95), .val (.int (p0 &&& (15 : Int32))), .unset, .unset, .unset] [(.ref w_16)])) _
                                  refine XS.astoreN X143.here hx rfl (hb hby at_120) rfl rfl (l' := #[.val (.int p0), .val (.ref b95), .val (.int (p0 &&& (15 : Int32))), .val (.ref w_16), .unset, .unset]) rfl ?_
                                  show Steps p.tables e below (T143.setTop (mkF m 121 #[.val (.int p0), .val (.ref b95), .val (.int (p0 &&& (15 : Int32))), .val (.ref w_16), .unset, .unset] [])) _
                                  refine XS.iloadN X143.here hx rfl (hb hby at_121) rfl ?_
                                  show Steps p.tables e below (T143.setTop (mkF m 122 #[.val (.int p0), .val (.ref b95), .val (.int (p0 &&& (15 : Int32))), .val (.ref w_16), .unset, .unset] [(.int (p0 &&& (15 : Int32)))])) _
                                  refine XS.bipush X143.here hx rfl (hb hby at_122) ?_
                                  show Steps p.tables e below (T143.setTop (mkF m 124 #[.val (.int p0), .val (.ref b95), .val (.int (p0 &&& (15 : Int32))), .val (.ref w_16), .unset, .unset] [(.int (8 : Int32)), (.int (p0 &&& (15 : Int32)))])) _
                                  refine XS.icmpNo X143.here hx rfl (hb hby at_124) rfl (feq hc175).1 ?_
                                  show Steps p.tables e below (T143.setTop (mkF m 127 #[.val (.int p0), .val (.ref b95), .val (.int (p0 &&& (15 : Int32))), .val (.ref w_16), .unset, .unset] [])) _
                                  refine XS.iloadN X143.here hx rfl (hb hby at_127) rfl ?_
                                  show Steps p.tables e below (T143.setTop (mkF m 128 #[.val (.int p0), .val (.ref b95), .val (.int (p0 &&& (15 : Int32))), .val (.ref w_16), .unset, .unset] [(.int (p0 &&& (15 : Int32)))])) _
                                  refine XS.bipush X143.here hx rfl (hb hby at_128) ?_
                                  show Steps p.tables e below (T143.setTop (mkF m 130 #[.val (.int p0), .val (.ref b95), .val (.int (p0 &&& (15 : Int32))), .val (.ref w_16), .unset, .unset] [(.int (9 : Int32)), (.int (p0 &&& (15 : Int32)))])) _
                                  refine XS.icmpYes X143.here hx rfl (pc0 := 130) (pc' := 137) rfl (hb hby at_130) rfl (feq hc180).2 (by decide) (by decide) ?_
                                  show Steps p.tables e below (T143.setTop (mkF m 137 #[.val (.int p0), .val (.ref b95), .val (.int (p0 &&& (15 : Int32))), .val (.ref w_16), .unset, .unset] [])) _
                                  refine XS.iconst X143.here hx rfl (hb hby at_137) ?_
                                  show Steps p.tables e below (T143.setTop (mkF m 138 #[.val (.int p0), .val (.ref b95), .val (.int (p0 &&& (15 : Int32))), .val (.ref w_16), .unset, .unset] [(.int (0 : Int32))])) _
                                  refine XS.istore X143.here hx rfl (hb hby at_138) rfl (l' := #[.val (.int p0), .val (.ref b95), .val (.int (p0 &&& (15 : Int32))), .val (.ref w_16), .val (.int (0 : Int32)), .unset]) rfl ?_
                                  show Steps p.tables e below (T143.setTop (mkF m 140 #[.val (.int p0), .val (.ref b95), .val (.int (p0 &&& (15 : Int32))), .val (.ref w_16), .val (.int (0 : Int32)), .unset] [])) _
                                  refine XS.aloadN X143.here hx rfl (hb hby at_140) rfl rfl ?_
                                  show Steps p.tables e below (T143.setTop (mkF m 141 #[.val (.int p0), .val (.ref b95), .val (.int (p0 &&& (15 : Int32))), .val (.ref w_16), .val (.int (0 : Int32)), .unset] [(.ref w_16)])) _
                                  refine st201.trans ?_
                                  show Steps p.tables e below (T201.setTop (mkF m 144 #[.val (.int p0), .val (.ref b95), .val (.int (p0 &&& (15 : Int32))), .val (.ref w_16), .val (.int (0 : Int32)), .unset] [(.int (0 : Int32))])) _
                                  refine XS.istore X201.here hx rfl (hb hby at_144) rfl (l' := #[.val (.int p0), .val (.ref b95), .val (.int (p0 &&& (15 : Int32))), .val (.ref w_16), .val (.int (0 : Int32)), .val (.int (0 : Int32))]) rfl ?_
                                  show Steps p.tables e below (T201.setTop (mkF m 146 #[.val (.int p0), .val (.ref b95), .val (.int (p0 &&& (15 : Int32))), .val (.ref w_16), .val (.int (0 : Int32)), .val (.int (0 : Int32))] [])) _
                                  refine XS.iload X201.here hx rfl (hb hby at_146) rfl ?_
                                  show Steps p.tables e below (T201.setTop (mkF m 148 #[.val (.int p0), .val (.ref b95), .val (.int (p0 &&& (15 : Int32))), .val (.ref w_16), .val (.int (0 : Int32)), .val (.int (0 : Int32))] [(.int (0 : Int32))])) _
                                  refine XS.iload X201.here hx rfl (hb hby at_148) rfl ?_
                                  show Steps p.tables e below (T201.setTop (mkF m 150 #[.val (.int p0), .val (.ref b95), .val (.int (p0 &&& (15 : Int32))), .val (.ref w_16), .val (.int (0 : Int32)), .val (.int (0 : Int32))] [(.int (0 : Int32)), (.int (0 : Int32))])) _
                                  refine XS.icmpNo X201.here hx rfl (hb hby at_150) rfl (teq (by decide : ((0 : Int32) = (0 : Int32)))).2 ?_
                                  show Steps p.tables e below (T201.setTop (mkF m 153 #[.val (.int p0), .val (.ref b95), .val (.int (p0 &&& (15 : Int32))), .val (.ref w_16), .val (.int (0 : Int32)), .val (.int (0 : Int32))] [])) _
                                  refine XS.iload X201.here hx rfl (hb hby at_153) rfl ?_
                                  show Steps p.tables e below (T201.setTop (mkF m 155 #[.val (.int p0), .val (.ref b95), .val (.int (p0 &&& (15 : Int32))), .val (.ref w_16), .val (.int (0 : Int32)), .val (.int (0 : Int32))] [(.int (0 : Int32))])) _
                                  refine XS.ifYes X201.here hx rfl (pc0 := 155) (pc' := 165) rfl (hb hby at_155) rfl ((if0 _ _).trans (teq (by decide : ((0 : Int32) = (0 : Int32)))).1) (by decide) (by decide) ?_
                                  show Steps p.tables e below (T201.setTop (mkF m 165 #[.val (.int p0), .val (.ref b95), .val (.int (p0 &&& (15 : Int32))), .val (.ref w_16), .val (.int (0 : Int32)), .val (.int (0 : Int32))] [])) _
                                  refine XS.iconst X201.here hx rfl (hb hby at_165) ?_
                                  show Steps p.tables e below (T201.setTop (mkF m 166 #[.val (.int p0), .val (.ref b95), .val (.int (p0 &&& (15 : Int32))), .val (.ref w_16), .val (.int (0 : Int32)), .val (.int (0 : Int32))] [(.int (1 : Int32))])) _
                                  refine XS.goto X201.here hx rfl (pc0 := 166) (pc' := 170) rfl (hb hby at_166) (by decide) (by decide) ?_
                                  show Steps p.tables e below (T201.setTop (mkF m 170 #[.val (.int p0), .val (.ref b95), .val (.int (p0 &&& (15 : Int32))), .val (.ref w_16), .val (.int (0 : Int32)), .val (.int (0 : Int32))] [(.int (1 : Int32))])) _
                                  exact retN X201 hx (t := .boolean) Bd.returns (by simp) (hb hby at_170) hr
                                · show Q0 Z w_1 w_2 w_3 w_4 w_5 w_6 w_7 w_8 w_9 w_10 w_11 w_12 w_13 w_14 w_15 w_16 p0 h0 n0 _ T201.heap _
                                  rw [e201]
                                  exact ⟨by unfold sp0; rw [if_neg hc145, if_neg hc154, if_neg hc157, if_neg hc160, if_neg hc163, if_neg hc166, if_neg hc169, if_neg hc172, if_neg hc175, if_neg hc180, if_neg hc184, if_neg hc187, if_neg hc190, if_neg hc193, if_neg hc196], N201, trivial⟩

theorem own_plain (p0 : Int32) : sp0 p0 = (1 : Int32) := by
  unfold sp0
  simp only [ite_self]
set_option maxRecDepth 65536 in
set_option maxHeartbeats 40000000 in
theorem comes_1 {Post : Tables → Env → Array Value → State → Outcome → State → Prop} (hpost : ∀ tb e args s v u, (limb_1_1.after args s (.returned v) u = true ∧ limb_1_2.after args s (.returned v) u = true ∧ True) → FrameEnd s (.returned v) u (Jvm.fieldLocs frame_1_writes args s ++ Jvm.arrayLocs frame_1_arrays args s ++ Jvm.staticLocs frame_1_statics s) 16 128 → Post tb e args s (.returned v) u) :
    ArmFor flags0 classFile x code maxLocals ret World_1 tables_1 room_1 Calls_1 rest_1 Pre_1 Post := by
  intro l hfl _ _ p e ha hc hk s m args below hf hA hF happ hP
  obtain ⟨hcalls, hrest, hpre⟩ := hP
  obtain ⟨-, -, -, hnamed, -, -, -, hat⟩ := (Spec.applies_iff hf).mp happ
  obtain ⟨hg, hn⟩ := and_e (Cond.before_iff.mp (show (Jvm.Cond.and given_1 narrow_1).before args s = true from hpre))
  obtain ⟨g202, g203⟩ := and_e hg
  obtain ⟨w0, rfl⟩ : ∃ w0 : Value, args = #[w0] := by
    have hs : args.size = 1 := by simpa [Cond.value, given_1] using g202
    obtain ⟨L⟩ := args
    match L, hs with
    | [w0], _ => exact ⟨w0, rfl⟩
  have hw := fun d (hd : d ∈ tables_1) => atoms_spec (ws := Jvm.Cond.code x code maxLocals ret :: tables_1) hat d (List.mem_cons_of_mem _ hd)
  have hfit : Fit s := fun {y c} hc i hi => by
    obtain ⟨ha, rfl⟩ := Array.getElem?_eq_some_iff.mp hc
    have q := List.all_eq_true.mp ((Array.all_eq_true_iff_forall_mem.mp hF) _ (Array.getElem_mem ha)) i (List.mem_range.mpr hi)
    simpa [Array.getElem?_eq_getElem hi] using q
  obtain ⟨i0, ei0⟩ := is_v g203
  obtain rfl : w0 = (.int i0) := Option.some.inj ei0
  obtain ⟨n1, n2⟩ := and_e hn
  obtain ⟨n3, n4⟩ := and_e n2
  obtain ⟨n5, n6⟩ := and_e n4
  obtain ⟨n7, n8⟩ := and_e n6
  obtain ⟨n9, n10⟩ := and_e n8
  obtain ⟨n11, n12⟩ := and_e n10
  obtain ⟨n13, n14⟩ := and_e n12
  obtain ⟨n15, n16⟩ := and_e n14
  obtain ⟨n17, n18⟩ := and_e n16
  obtain ⟨n19, n20⟩ := and_e n18
  obtain ⟨n21, n22⟩ := and_e n20
  obtain ⟨n23, n24⟩ := and_e n22
  obtain ⟨n25, n26⟩ := and_e n24
  obtain ⟨n27, n28⟩ := and_e n26
  obtain ⟨n29, n30⟩ := and_e n28
  obtain ⟨n31, n32⟩ := and_e n30
  obtain ⟨n33, n34⟩ := and_e n32
  obtain ⟨n35, n36⟩ := and_e n34
  obtain ⟨n37, n38⟩ := and_e n36
  obtain ⟨n39, n40⟩ := and_e n38
  obtain ⟨n41, n42⟩ := and_e n40
  obtain ⟨n43, n44⟩ := and_e n42
  obtain ⟨n45, n46⟩ := and_e n44
  obtain ⟨n47, n48⟩ := and_e n46
  obtain ⟨n49, n50⟩ := and_e n48
  obtain ⟨n51, n52⟩ := and_e n50
  obtain ⟨n53, n54⟩ := and_e n52
  obtain ⟨n55, n56⟩ := and_e n54
  obtain ⟨n57, n58⟩ := and_e n56
  obtain ⟨n59, n60⟩ := and_e n58
  obtain ⟨n61, n62⟩ := and_e n60
  obtain ⟨n63, n64⟩ := and_e n62
  obtain ⟨n65, n66⟩ := and_e n64
  obtain ⟨n67, n68⟩ := and_e n66
  obtain ⟨n69, n70⟩ := and_e n68
  obtain ⟨n71, n72⟩ := and_e n70
  obtain ⟨n73, n74⟩ := and_e n72
  obtain ⟨n75, n76⟩ := and_e n74
  obtain ⟨n77, n78⟩ := and_e n76
  obtain ⟨n79, n80⟩ := and_e n78
  obtain ⟨n81, n82⟩ := and_e n80
  obtain ⟨n83, n84⟩ := and_e n82
  obtain ⟨n85, n86⟩ := and_e n84
  obtain ⟨n87, n88⟩ := and_e n86
  obtain ⟨n89, n90⟩ := and_e n88
  obtain ⟨n91, n92⟩ := and_e n90
  obtain ⟨n93, n94⟩ := and_e n92
  obtain ⟨w_1, ew_1⟩ := exa_v n1
  have S_1 : Sta s s.heap "com/example/discharge/discharge/frontend/Expression$BinaryOperator" "ADD" "Lcom/example/discharge/discharge/frontend/Expression$BinaryOperator;" (.ref w_1) := Sta.start ew_1 (Or.inr ⟨(hw _ (tk 3 rfl)), (hw _ (tk 4 rfl))⟩)
  have E_1 : Exa s s.heap w_1 "com/example/discharge/discharge/frontend/Expression$BinaryOperator" := Exa.start ew_1 n1
  obtain ⟨w_2, ew_2⟩ := exa_v n3
  have S_2 : Sta s s.heap "com/example/discharge/discharge/frontend/Expression$BinaryOperator" "SUBTRACT" "Lcom/example/discharge/discharge/frontend/Expression$BinaryOperator;" (.ref w_2) := Sta.start ew_2 (Or.inr ⟨(hw _ (tk 3 rfl)), (hw _ (tk 7 rfl))⟩)
  have E_2 : Exa s s.heap w_2 "com/example/discharge/discharge/frontend/Expression$BinaryOperator" := Exa.start ew_2 n3
  obtain ⟨w_3, ew_3⟩ := exa_v n5
  have S_3 : Sta s s.heap "com/example/discharge/discharge/frontend/Expression$BinaryOperator" "MULTIPLY" "Lcom/example/discharge/discharge/frontend/Expression$BinaryOperator;" (.ref w_3) := Sta.start ew_3 (Or.inr ⟨(hw _ (tk 3 rfl)), (hw _ (tk 9 rfl))⟩)
  have E_3 : Exa s s.heap w_3 "com/example/discharge/discharge/frontend/Expression$BinaryOperator" := Exa.start ew_3 n5
  obtain ⟨w_4, ew_4⟩ := exa_v n7
  have S_4 : Sta s s.heap "com/example/discharge/discharge/frontend/Expression$BinaryOperator" "DIVIDE" "Lcom/example/discharge/discharge/frontend/Expression$BinaryOperator;" (.ref w_4) := Sta.start ew_4 (Or.inr ⟨(hw _ (tk 3 rfl)), (hw _ (tk 11 rfl))⟩)
  have E_4 : Exa s s.heap w_4 "com/example/discharge/discharge/frontend/Expression$BinaryOperator" := Exa.start ew_4 n7
  obtain ⟨w_5, ew_5⟩ := exa_v n9
  have S_5 : Sta s s.heap "com/example/discharge/discharge/frontend/Expression$BinaryOperator" "REMAINDER" "Lcom/example/discharge/discharge/frontend/Expression$BinaryOperator;" (.ref w_5) := Sta.start ew_5 (Or.inr ⟨(hw _ (tk 3 rfl)), (hw _ (tk 13 rfl))⟩)
  have E_5 : Exa s s.heap w_5 "com/example/discharge/discharge/frontend/Expression$BinaryOperator" := Exa.start ew_5 n9
  obtain ⟨w_6, ew_6⟩ := exa_v n11
  have S_6 : Sta s s.heap "com/example/discharge/discharge/frontend/Expression$BinaryOperator" "BITWISE_AND" "Lcom/example/discharge/discharge/frontend/Expression$BinaryOperator;" (.ref w_6) := Sta.start ew_6 (Or.inr ⟨(hw _ (tk 3 rfl)), (hw _ (tk 15 rfl))⟩)
  have E_6 : Exa s s.heap w_6 "com/example/discharge/discharge/frontend/Expression$BinaryOperator" := Exa.start ew_6 n11
  obtain ⟨w_7, ew_7⟩ := exa_v n13
  have S_7 : Sta s s.heap "com/example/discharge/discharge/frontend/Expression$BinaryOperator" "BITWISE_OR" "Lcom/example/discharge/discharge/frontend/Expression$BinaryOperator;" (.ref w_7) := Sta.start ew_7 (Or.inr ⟨(hw _ (tk 3 rfl)), (hw _ (tk 17 rfl))⟩)
  have E_7 : Exa s s.heap w_7 "com/example/discharge/discharge/frontend/Expression$BinaryOperator" := Exa.start ew_7 n13
  obtain ⟨w_8, ew_8⟩ := exa_v n15
  have S_8 : Sta s s.heap "com/example/discharge/discharge/frontend/Expression$BinaryOperator" "BITWISE_XOR" "Lcom/example/discharge/discharge/frontend/Expression$BinaryOperator;" (.ref w_8) := Sta.start ew_8 (Or.inr ⟨(hw _ (tk 3 rfl)), (hw _ (tk 19 rfl))⟩)
  have E_8 : Exa s s.heap w_8 "com/example/discharge/discharge/frontend/Expression$BinaryOperator" := Exa.start ew_8 n15
  obtain ⟨w_9, ew_9⟩ := exa_v n17
  have S_9 : Sta s s.heap "com/example/discharge/discharge/frontend/Expression$BinaryOperator" "SHIFT_LEFT" "Lcom/example/discharge/discharge/frontend/Expression$BinaryOperator;" (.ref w_9) := Sta.start ew_9 (Or.inr ⟨(hw _ (tk 3 rfl)), (hw _ (tk 21 rfl))⟩)
  have E_9 : Exa s s.heap w_9 "com/example/discharge/discharge/frontend/Expression$BinaryOperator" := Exa.start ew_9 n17
  obtain ⟨w_10, ew_10⟩ := exa_v n19
  have S_10 : Sta s s.heap "com/example/discharge/discharge/frontend/Expression$BinaryOperator" "SHIFT_RIGHT" "Lcom/example/discharge/discharge/frontend/Expression$BinaryOperator;" (.ref w_10) := Sta.start ew_10 (Or.inr ⟨(hw _ (tk 3 rfl)), (hw _ (tk 23 rfl))⟩)
  have E_10 : Exa s s.heap w_10 "com/example/discharge/discharge/frontend/Expression$BinaryOperator" := Exa.start ew_10 n19
  obtain ⟨w_11, ew_11⟩ := exa_v n21
  have S_11 : Sta s s.heap "com/example/discharge/discharge/frontend/Expression$BinaryOperator" "LESS" "Lcom/example/discharge/discharge/frontend/Expression$BinaryOperator;" (.ref w_11) := Sta.start ew_11 (Or.inr ⟨(hw _ (tk 3 rfl)), (hw _ (tk 25 rfl))⟩)
  have E_11 : Exa s s.heap w_11 "com/example/discharge/discharge/frontend/Expression$BinaryOperator" := Exa.start ew_11 n21
  obtain ⟨w_12, ew_12⟩ := exa_v n23
  have S_12 : Sta s s.heap "com/example/discharge/discharge/frontend/Expression$BinaryOperator" "LESS_OR_EQUAL" "Lcom/example/discharge/discharge/frontend/Expression$BinaryOperator;" (.ref w_12) := Sta.start ew_12 (Or.inr ⟨(hw _ (tk 3 rfl)), (hw _ (tk 27 rfl))⟩)
  have E_12 : Exa s s.heap w_12 "com/example/discharge/discharge/frontend/Expression$BinaryOperator" := Exa.start ew_12 n23
  obtain ⟨w_13, ew_13⟩ := exa_v n25
  have S_13 : Sta s s.heap "com/example/discharge/discharge/frontend/Expression$BinaryOperator" "GREATER" "Lcom/example/discharge/discharge/frontend/Expression$BinaryOperator;" (.ref w_13) := Sta.start ew_13 (Or.inr ⟨(hw _ (tk 3 rfl)), (hw _ (tk 29 rfl))⟩)
  have E_13 : Exa s s.heap w_13 "com/example/discharge/discharge/frontend/Expression$BinaryOperator" := Exa.start ew_13 n25
  obtain ⟨w_14, ew_14⟩ := exa_v n27
  have S_14 : Sta s s.heap "com/example/discharge/discharge/frontend/Expression$BinaryOperator" "GREATER_OR_EQUAL" "Lcom/example/discharge/discharge/frontend/Expression$BinaryOperator;" (.ref w_14) := Sta.start ew_14 (Or.inr ⟨(hw _ (tk 3 rfl)), (hw _ (tk 31 rfl))⟩)
  have E_14 : Exa s s.heap w_14 "com/example/discharge/discharge/frontend/Expression$BinaryOperator" := Exa.start ew_14 n27
  obtain ⟨w_15, ew_15⟩ := exa_v n29
  have S_15 : Sta s s.heap "com/example/discharge/discharge/frontend/Expression$BinaryOperator" "EQUAL" "Lcom/example/discharge/discharge/frontend/Expression$BinaryOperator;" (.ref w_15) := Sta.start ew_15 (Or.inr ⟨(hw _ (tk 3 rfl)), (hw _ (tk 33 rfl))⟩)
  have E_15 : Exa s s.heap w_15 "com/example/discharge/discharge/frontend/Expression$BinaryOperator" := Exa.start ew_15 n29
  obtain ⟨w_16, ew_16⟩ := exa_v n31
  have S_16 : Sta s s.heap "com/example/discharge/discharge/frontend/Expression$BinaryOperator" "NOT_EQUAL" "Lcom/example/discharge/discharge/frontend/Expression$BinaryOperator;" (.ref w_16) := Sta.start ew_16 (Or.inr ⟨(hw _ (tk 3 rfl)), (hw _ (tk 35 rfl))⟩)
  have E_16 : Exa s s.heap w_16 "com/example/discharge/discharge/frontend/Expression$BinaryOperator" := Exa.start ew_16 n31
  have F_1_ordinal : Fld s s.heap w_1 "java/lang/Enum" "ordinal" "I" (.int (0 : Int32)) := own_fld ew_1 n33
  have F_9_ordinal : Fld s s.heap w_9 "java/lang/Enum" "ordinal" "I" (.int (8 : Int32)) := own_fld ew_9 n35
  have F_10_ordinal : Fld s s.heap w_10 "java/lang/Enum" "ordinal" "I" (.int (9 : Int32)) := own_fld ew_10 n37
  have F_4_ordinal : Fld s s.heap w_4 "java/lang/Enum" "ordinal" "I" (.int (3 : Int32)) := own_fld ew_4 n39
  have F_15_ordinal : Fld s s.heap w_15 "java/lang/Enum" "ordinal" "I" (.int (14 : Int32)) := own_fld ew_15 n41
  have F_16_ordinal : Fld s s.heap w_16 "java/lang/Enum" "ordinal" "I" (.int (15 : Int32)) := own_fld ew_16 n43
  have F_11_ordinal : Fld s s.heap w_11 "java/lang/Enum" "ordinal" "I" (.int (10 : Int32)) := own_fld ew_11 n45
  have F_8_ordinal : Fld s s.heap w_8 "java/lang/Enum" "ordinal" "I" (.int (7 : Int32)) := own_fld ew_8 n47
  have F_3_ordinal : Fld s s.heap w_3 "java/lang/Enum" "ordinal" "I" (.int (2 : Int32)) := own_fld ew_3 n49
  have F_12_ordinal : Fld s s.heap w_12 "java/lang/Enum" "ordinal" "I" (.int (11 : Int32)) := own_fld ew_12 n51
  have F_9_comparison : Fld s s.heap w_9 "com/example/discharge/discharge/frontend/Expression$BinaryOperator" "comparison" "Z" (.int (0 : Int32)) := own_fld ew_9 n53
  have F_2_ordinal : Fld s s.heap w_2 "java/lang/Enum" "ordinal" "I" (.int (1 : Int32)) := own_fld ew_2 n55
  have F_5_ordinal : Fld s s.heap w_5 "java/lang/Enum" "ordinal" "I" (.int (4 : Int32)) := own_fld ew_5 n57
  have F_13_ordinal : Fld s s.heap w_13 "java/lang/Enum" "ordinal" "I" (.int (12 : Int32)) := own_fld ew_13 n59
  have F_14_ordinal : Fld s s.heap w_14 "java/lang/Enum" "ordinal" "I" (.int (13 : Int32)) := own_fld ew_14 n61
  have F_7_ordinal : Fld s s.heap w_7 "java/lang/Enum" "ordinal" "I" (.int (6 : Int32)) := own_fld ew_7 n63
  have F_10_comparison : Fld s s.heap w_10 "com/example/discharge/discharge/frontend/Expression$BinaryOperator" "comparison" "Z" (.int (0 : Int32)) := own_fld ew_10 n65
  have F_6_ordinal : Fld s s.heap w_6 "java/lang/Enum" "ordinal" "I" (.int (5 : Int32)) := own_fld ew_6 n67
  have F_1_comparison : Fld s s.heap w_1 "com/example/discharge/discharge/frontend/Expression$BinaryOperator" "comparison" "Z" (.int (0 : Int32)) := own_fld ew_1 n69
  have F_2_comparison : Fld s s.heap w_2 "com/example/discharge/discharge/frontend/Expression$BinaryOperator" "comparison" "Z" (.int (0 : Int32)) := own_fld ew_2 n71
  have F_3_comparison : Fld s s.heap w_3 "com/example/discharge/discharge/frontend/Expression$BinaryOperator" "comparison" "Z" (.int (0 : Int32)) := own_fld ew_3 n73
  have F_4_comparison : Fld s s.heap w_4 "com/example/discharge/discharge/frontend/Expression$BinaryOperator" "comparison" "Z" (.int (0 : Int32)) := own_fld ew_4 n75
  have F_5_comparison : Fld s s.heap w_5 "com/example/discharge/discharge/frontend/Expression$BinaryOperator" "comparison" "Z" (.int (0 : Int32)) := own_fld ew_5 n77
  have F_6_comparison : Fld s s.heap w_6 "com/example/discharge/discharge/frontend/Expression$BinaryOperator" "comparison" "Z" (.int (0 : Int32)) := own_fld ew_6 n79
  have F_7_comparison : Fld s s.heap w_7 "com/example/discharge/discharge/frontend/Expression$BinaryOperator" "comparison" "Z" (.int (0 : Int32)) := own_fld ew_7 n81
  have F_8_comparison : Fld s s.heap w_8 "com/example/discharge/discharge/frontend/Expression$BinaryOperator" "comparison" "Z" (.int (0 : Int32)) := own_fld ew_8 n83
  have F_11_comparison : Fld s s.heap w_11 "com/example/discharge/discharge/frontend/Expression$BinaryOperator" "comparison" "Z" (.int (1 : Int32)) := own_fld ew_11 n85
  have F_12_comparison : Fld s s.heap w_12 "com/example/discharge/discharge/frontend/Expression$BinaryOperator" "comparison" "Z" (.int (1 : Int32)) := own_fld ew_12 n87
  have F_13_comparison : Fld s s.heap w_13 "com/example/discharge/discharge/frontend/Expression$BinaryOperator" "comparison" "Z" (.int (1 : Int32)) := own_fld ew_13 n89
  have F_14_comparison : Fld s s.heap w_14 "com/example/discharge/discharge/frontend/Expression$BinaryOperator" "comparison" "Z" (.int (1 : Int32)) := own_fld ew_14 n91
  have F_15_comparison : Fld s s.heap w_15 "com/example/discharge/discharge/frontend/Expression$BinaryOperator" "comparison" "Z" (.int (1 : Int32)) := own_fld ew_15 n93
  have F_16_comparison : Fld s s.heap w_16 "com/example/discharge/discharge/frontend/Expression$BinaryOperator" "comparison" "Z" (.int (1 : Int32)) := own_fld ew_16 n94
  have hS : StF s w_1 w_2 w_3 w_4 w_5 w_6 w_7 w_8 w_9 w_10 w_11 w_12 w_13 w_14 w_15 w_16 := ⟨S_1, E_1, S_2, E_2, S_3, E_3, S_4, E_4, S_5, E_5, S_6, E_6, S_7, E_7, S_8, E_8, S_9, E_9, S_10, E_10, S_11, E_11, S_12, E_12, S_13, E_13, S_14, E_14, S_15, E_15, S_16, E_16, F_1_ordinal, F_9_ordinal, F_10_ordinal, F_4_ordinal, F_15_ordinal, F_16_ordinal, F_11_ordinal, F_8_ordinal, F_3_ordinal, F_12_ordinal, F_9_comparison, F_2_ordinal, F_5_ordinal, F_13_ordinal, F_14_ordinal, F_7_ordinal, F_10_comparison, F_6_ordinal, F_1_comparison, F_2_comparison, F_3_comparison, F_4_comparison, F_5_comparison, F_6_comparison, F_7_comparison, F_8_comparison, F_11_comparison, F_12_comparison, F_13_comparison, F_14_comparison, F_15_comparison, F_16_comparison⟩
  obtain ⟨n, o, h1, h2, h3, _, L, rfl, ⟨hv, N, -⟩, hq⟩ := rm0 l s _ hw tables_1 w_1 w_2 w_3 w_4 w_5 w_6 w_7 w_8 w_9 w_10 w_11 w_12 w_13 w_14 w_15 w_16 hS i0 s.heap s.heap.size (Old.start s) p e ha hc hk s m _ below hf ((Spec.applies_iff_loose hf).mp happ).1 ⟨rfl, State.Warmed39.refl s, rfl⟩ trivial
  rw [own_plain i0] at hv
  subst hv
  refine ⟨n, _, h1, h2, h3, hpost _ _ _ _ _ _ ⟨Cond.after_iff.mpr rfl, Cond.after_iff.mpr (eq_i res_at (Term.int_eval (1)) rfl), trivial⟩ ⟨hq.1, hq.2.1, (hq.2.2.sift fun y hy => Or.inr (N y hy)).mono (by decide) (by decide)⟩⟩
theorem main_1_1 : Claimed_1_1 := comes_1 fun _ _ _ _ _ _ h hF => ⟨h.1, hF⟩
theorem main_1_2 : Claimed_1_2 := comes_1 fun _ _ _ _ _ _ h hF => ⟨h.2.1, hF⟩
end Jvm.Pilot.@@N@@
namespace Jvm.Pilot.@@N@@
open Jvm Jvm.ClassFile Sem Op Lib Jvm.Free Jvm.Stand Jvm.Pilot.@@N@@.Jvm.D
/-! MADE BY PROGRAM (witnessworld.py) out of the Statement's table words and the real class files: 13 classes; the members and pool entries that the words name. The judged class is class 1, her method 1. -/
namespace start1
open Jvm.ClassFile
def u (s : String) : CpInfo := .utf8 (stringToUtf16 s)
/-- a pool by its gaps: so many unusable entries, then the entry; so many at the end -/
def gap : Nat → List CpInfo → List CpInfo
  | 0, r => r
  | n + 1, r => .unusable :: gap n r
def poolList (es : List (Nat × CpInfo)) (last : Nat) : List CpInfo := es.foldr (fun e r => gap e.1 (e.2 :: r)) (gap last [])
def pool (es : List (Nat × CpInfo)) (last : Nat) : Array CpInfo := ⟨poolList es last⟩
def fileOf (pool : Array CpInfo) (this : Nat) (attrs : Array Attribute := #[]) (ms : Array MethodInfo := #[]) (fl : Nat := 33) (sup : Nat := 0) (ifs : Array Nat := #[]) (fds : Array FieldInfo := #[]) : ClassFile where
  minorVersion := 0
  majorVersion := 65
  constantPool := pool
  accessFlags := fl
  thisClass := this
  superClass := sup
  interfaces := ifs
  fields := fds
  methods := ms
  attributes := attrs
def plain (name : String) (sup : Option ClassId) : Class where
  name := name
  kind := .ordinary
  loader := none
  accessFlags := 33
  super := sup
  interfaces := #[]
  cf := none
  fields := #[]
  methods := #[]
  instanceTypes := #[]
  staticTypes := #[]
  resolved := #[]
  callSites := []
  init := .initialized
  statics := none
  mirror := none

def pool0 : Array CpInfo := pool [(5, u "<init>"), (0, u "()V"), (1, .class_ 10), (1, u "java/lang/Object")] 113

def k0m0 : Method := { name := "<init>", desc := "()V", sig := { parameters := [], returnType := none }, accessFlags := 1, code := none }
/-- java/lang/Object -/
def k0 : Class := { plain "java/lang/Object" none with
  accessFlags := 33
  interfaces := #[]
  cf := some (fileOf pool0 8 #[] #[{ accessFlags := 1, nameIndex := 5, descriptorIndex := 6, attributes := #[] }] 33 0 #[] #[])
  fields := #[]
  methods := #[k0m0]
  instanceTypes := #[]
  staticTypes := #[]
  resolved := Array.replicate 124 none
  statics := none }

def pool1 : Array CpInfo := pool [(2, .class_ 4), (1, u "java/lang/Object"), (0, u "<init>"), (0, u "()V"), (0, .class_ 8), (0, u "com/example/discharge/discharge/frontend/Expression$BinaryOperator"), (0, .fieldref 7 10), (0, .nameAndType 11 12), (0, u "ADD"), (0, u "Lcom/example/discharge/discharge/frontend/Expression$BinaryOperator;"), (0, .fieldref 7 14), (0, .nameAndType 15 12), (0, u "SUBTRACT"), (0, .fieldref 7 17), (0, .nameAndType 18 12), (0, u "MULTIPLY"), (0, .fieldref 7 20), (0, .nameAndType 21 12), (0, u "DIVIDE"), (0, .fieldref 7 23), (0, .nameAndType 24 12), (0, u "REMAINDER"), (0, .fieldref 7 26), (0, .nameAndType 27 12), (0, u "BITWISE_AND"), (0, .fieldref 7 29), (0, .nameAndType 30 12), (0, u "BITWISE_OR"), (0, .fieldref 7 32), (0, .nameAndType 33 12), (0, u "BITWISE_XOR"), (0, .fieldref 7 35), (0, .nameAndType 36 12), (0, u "SHIFT_LEFT"), (0, .fieldref 7 38), (0, .nameAndType 39 12), (0, u "SHIFT_RIGHT"), (0, .fieldref 7 41), (0, .nameAndType 42 12), (0, u "LESS"), (0, .fieldref 7 44), (0, .nameAndType 45 12), (0, u "LESS_OR_EQUAL"), (0, .fieldref 7 47), (0, .nameAndType 48 12), (0, u "GREATER"), (0, .fieldref 7 50), (0, .nameAndType 51 12), (0, u "GREATER_OR_EQUAL"), (0, .fieldref 7 53), (0, .nameAndType 54 12), (0, u "EQUAL"), (0, .fieldref 7 56), (0, .nameAndType 57 12), (0, u "NOT_EQUAL"), (0, .methodref 7 59), (0, .nameAndType 60 61), (0, u "isShift"), (0, u "()Z"), (0, .methodref 7 63), (0, .nameAndType 64 61), (0, u "isComparison"), (0, .class_ 66), (0, u "com/example/discharge/discharge/frontend/BinaryOperatorIsShiftPinLaw"), (2, u "law"), (0, u "(I)Z")] 9

def k1m0 : Method := { name := "<init>", desc := "()V", sig := { parameters := [], returnType := none }, accessFlags := 2, code := none }
def k1c1 : Code := { maxStack := 4, maxLocals := 6, code := code, exceptionTable := #[], attributes := #[] }
def k1m1 : Method := { name := "law", desc := "(I)Z", sig := { parameters := [.int], returnType := some .boolean }, accessFlags := 9, code := some k1c1 }
/-- com/example/discharge/discharge/frontend/BinaryOperatorIsShiftPinLaw -/
def k1 : Class := { plain "com/example/discharge/discharge/frontend/BinaryOperatorIsShiftPinLaw" (some 0) with
  accessFlags := 49
  interfaces := #[]
  cf := some (fileOf pool1 65 #[] #[{ accessFlags := 2, nameIndex := 5, descriptorIndex := 6, attributes := #[] }, { accessFlags := 9, nameIndex := 69, descriptorIndex := 70, attributes := #[] }] 49 2 #[] #[])
  fields := #[]
  methods := #[k1m0, k1m1]
  instanceTypes := #[]
  staticTypes := #[]
  resolved := Array.replicate 80 none
  statics := none }

def pool2 : Array CpInfo := pool [(1, .class_ 2), (0, u "java/lang/constant/Constable"), (0, .class_ 4), (0, u "java/lang/Object")] 6

/-- java/lang/constant/Constable -/
def k2 : Class := { plain "java/lang/constant/Constable" (some 0) with
  accessFlags := 1537
  interfaces := #[]
  cf := some (fileOf pool2 1 #[] #[] 1537 3 #[] #[])
  fields := #[]
  methods := #[]
  instanceTypes := #[]
  staticTypes := #[]
  resolved := Array.replicate 11 none
  statics := none }

def pool3 : Array CpInfo := pool [(1, .class_ 2), (0, u "java/lang/Comparable"), (0, .class_ 4), (0, u "java/lang/Object")] 7

/-- java/lang/Comparable -/
def k3 : Class := { plain "java/lang/Comparable" (some 0) with
  accessFlags := 1537
  interfaces := #[]
  cf := some (fileOf pool3 1 #[] #[] 1537 3 #[] #[])
  fields := #[]
  methods := #[]
  instanceTypes := #[]
  staticTypes := #[]
  resolved := Array.replicate 12 none
  statics := none }

def pool4 : Array CpInfo := pool [(1, .class_ 2), (0, u "java/io/Serializable"), (0, .class_ 4), (0, u "java/lang/Object")] 2

/-- java/io/Serializable -/
def k4 : Class := { plain "java/io/Serializable" (some 0) with
  accessFlags := 1537
  interfaces := #[]
  cf := some (fileOf pool4 1 #[] #[] 1537 3 #[] #[])
  fields := #[]
  methods := #[]
  instanceTypes := #[]
  staticTypes := #[]
  resolved := Array.replicate 7 none
  statics := none }

def pool5 : Array CpInfo := pool [(2, .class_ 4), (1, u "java/lang/Enum"), (0, u "name"), (0, u "Ljava/lang/String;"), (2, u "ordinal"), (0, u "I"), (1, .class_ 14), (1, u "java/lang/Object"), (4, u "hash"), (86, .class_ 108), (1, u "java/lang/Enum$EnumDesc"), (2, .class_ 112), (0, u "java/lang/constant/Constable"), (0, .class_ 114), (0, u "java/lang/Comparable"), (0, .class_ 116), (0, u "java/io/Serializable")] 87

/-- java/lang/Enum -/
def k5 : Class := { plain "java/lang/Enum" (some 0) with
  accessFlags := 1057
  interfaces := #[2, 3, 4]
  cf := some (fileOf pool5 2 #[.nestMembers #[106]] #[] 1057 12 #[111, 113, 115] #[{ accessFlags := 18, nameIndex := 5, descriptorIndex := 6, attributes := #[] }, { accessFlags := 18, nameIndex := 9, descriptorIndex := 10, attributes := #[] }, { accessFlags := 2, nameIndex := 19, descriptorIndex := 10, attributes := #[] }])
  fields := #[{ name := "name", type := (.object "java/lang/String"), accessFlags := 18, slot := 0, constantValue := 0 }, { name := "ordinal", type := .int, accessFlags := 18, slot := 1, constantValue := 0 }, { name := "hash", type := .int, accessFlags := 2, slot := 2, constantValue := 0 }]
  methods := #[]
  instanceTypes := #[(.object "java/lang/String"), .int, .int]
  staticTypes := #[]
  resolved := Array.replicate 204 none
  statics := none }

def pool6 : Array CpInfo := pool [(1, .class_ 2), (0, u "com/example/discharge/discharge/frontend/Expression$BinaryOperator"), (2, u "ADD"), (0, u "Lcom/example/discharge/discharge/frontend/Expression$BinaryOperator;"), (2, u "SUBTRACT"), (2, u "MULTIPLY"), (2, u "DIVIDE"), (2, u "REMAINDER"), (2, u "BITWISE_AND"), (2, u "BITWISE_OR"), (2, u "BITWISE_XOR"), (0, .fieldref 1 29), (0, .nameAndType 30 6), (0, u "SHIFT_LEFT"), (0, .fieldref 1 32), (0, .nameAndType 33 6), (0, u "SHIFT_RIGHT"), (2, u "LESS"), (2, u "LESS_OR_EQUAL"), (2, u "GREATER"), (2, u "GREATER_OR_EQUAL"), (2, u "EQUAL"), (2, u "NOT_EQUAL"), (2, u "$VALUES"), (0, u "[Lcom/example/discharge/discharge/frontend/Expression$BinaryOperator;"), (6, .class_ 64), (1, u "java/lang/Enum"), (8, u "spelling"), (0, u "Ljava/lang/String;"), (0, .fieldref 1 76), (0, .nameAndType 77 78), (0, u "comparison"), (0, u "Z"), (70, u "isComparison"), (0, u "()Z"), (0, u "isShift"), (8, .class_ 161), (0, u "com/example/discharge/discharge/frontend/Expression")] 2

def k6c0 : Code := { maxStack := 1, maxLocals := 1, code := prog_65_method_4_code, exceptionTable := #[], attributes := #[] }
def k6m0 : Method := { name := "isComparison", desc := "()Z", sig := { parameters := [], returnType := some .boolean }, accessFlags := 1, code := some k6c0 }
def k6c1 : Code := { maxStack := 2, maxLocals := 1, code := prog_65_method_5_code, exceptionTable := #[], attributes := #[] }
def k6m1 : Method := { name := "isShift", desc := "()Z", sig := { parameters := [], returnType := some .boolean }, accessFlags := 1, code := some k6c1 }
/-- com/example/discharge/discharge/frontend/Expression$BinaryOperator -/
def k6 : Class := { plain "com/example/discharge/discharge/frontend/Expression$BinaryOperator" (some 5) with
  accessFlags := 16433
  interfaces := #[]
  cf := some (fileOf pool6 1 #[.nestHost 160] #[{ accessFlags := 1, nameIndex := 149, descriptorIndex := 150, attributes := #[] }, { accessFlags := 1, nameIndex := 151, descriptorIndex := 150, attributes := #[] }] 16433 62 #[] #[{ accessFlags := 16409, nameIndex := 5, descriptorIndex := 6, attributes := #[] }, { accessFlags := 16409, nameIndex := 9, descriptorIndex := 6, attributes := #[] }, { accessFlags := 16409, nameIndex := 12, descriptorIndex := 6, attributes := #[] }, { accessFlags := 16409, nameIndex := 15, descriptorIndex := 6, attributes := #[] }, { accessFlags := 16409, nameIndex := 18, descriptorIndex := 6, attributes := #[] }, { accessFlags := 16409, nameIndex := 21, descriptorIndex := 6, attributes := #[] }, { accessFlags := 16409, nameIndex := 24, descriptorIndex := 6, attributes := #[] }, { accessFlags := 16409, nameIndex := 27, descriptorIndex := 6, attributes := #[] }, { accessFlags := 16409, nameIndex := 30, descriptorIndex := 6, attributes := #[] }, { accessFlags := 16409, nameIndex := 33, descriptorIndex := 6, attributes := #[] }, { accessFlags := 16409, nameIndex := 36, descriptorIndex := 6, attributes := #[] }, { accessFlags := 16409, nameIndex := 39, descriptorIndex := 6, attributes := #[] }, { accessFlags := 16409, nameIndex := 42, descriptorIndex := 6, attributes := #[] }, { accessFlags := 16409, nameIndex := 45, descriptorIndex := 6, attributes := #[] }, { accessFlags := 16409, nameIndex := 48, descriptorIndex := 6, attributes := #[] }, { accessFlags := 16409, nameIndex := 51, descriptorIndex := 6, attributes := #[] }, { accessFlags := 18, nameIndex := 73, descriptorIndex := 74, attributes := #[] }, { accessFlags := 18, nameIndex := 77, descriptorIndex := 78, attributes := #[] }, { accessFlags := 4122, nameIndex := 54, descriptorIndex := 55, attributes := #[] }])
  fields := #[{ name := "ADD", type := (.object "com/example/discharge/discharge/frontend/Expression$BinaryOperator"), accessFlags := 16409, slot := 0, constantValue := 0 }, { name := "SUBTRACT", type := (.object "com/example/discharge/discharge/frontend/Expression$BinaryOperator"), accessFlags := 16409, slot := 1, constantValue := 0 }, { name := "MULTIPLY", type := (.object "com/example/discharge/discharge/frontend/Expression$BinaryOperator"), accessFlags := 16409, slot := 2, constantValue := 0 }, { name := "DIVIDE", type := (.object "com/example/discharge/discharge/frontend/Expression$BinaryOperator"), accessFlags := 16409, slot := 3, constantValue := 0 }, { name := "REMAINDER", type := (.object "com/example/discharge/discharge/frontend/Expression$BinaryOperator"), accessFlags := 16409, slot := 4, constantValue := 0 }, { name := "BITWISE_AND", type := (.object "com/example/discharge/discharge/frontend/Expression$BinaryOperator"), accessFlags := 16409, slot := 5, constantValue := 0 }, { name := "BITWISE_OR", type := (.object "com/example/discharge/discharge/frontend/Expression$BinaryOperator"), accessFlags := 16409, slot := 6, constantValue := 0 }, { name := "BITWISE_XOR", type := (.object "com/example/discharge/discharge/frontend/Expression$BinaryOperator"), accessFlags := 16409, slot := 7, constantValue := 0 }, { name := "SHIFT_LEFT", type := (.object "com/example/discharge/discharge/frontend/Expression$BinaryOperator"), accessFlags := 16409, slot := 8, constantValue := 0 }, { name := "SHIFT_RIGHT", type := (.object "com/example/discharge/discharge/frontend/Expression$BinaryOperator"), accessFlags := 16409, slot := 9, constantValue := 0 }, { name := "LESS", type := (.object "com/example/discharge/discharge/frontend/Expression$BinaryOperator"), accessFlags := 16409, slot := 10, constantValue := 0 }, { name := "LESS_OR_EQUAL", type := (.object "com/example/discharge/discharge/frontend/Expression$BinaryOperator"), accessFlags := 16409, slot := 11, constantValue := 0 }, { name := "GREATER", type := (.object "com/example/discharge/discharge/frontend/Expression$BinaryOperator"), accessFlags := 16409, slot := 12, constantValue := 0 }, { name := "GREATER_OR_EQUAL", type := (.object "com/example/discharge/discharge/frontend/Expression$BinaryOperator"), accessFlags := 16409, slot := 13, constantValue := 0 }, { name := "EQUAL", type := (.object "com/example/discharge/discharge/frontend/Expression$BinaryOperator"), accessFlags := 16409, slot := 14, constantValue := 0 }, { name := "NOT_EQUAL", type := (.object "com/example/discharge/discharge/frontend/Expression$BinaryOperator"), accessFlags := 16409, slot := 15, constantValue := 0 }, { name := "spelling", type := (.object "java/lang/String"), accessFlags := 18, slot := 3, constantValue := 0 }, { name := "comparison", type := .boolean, accessFlags := 18, slot := 4, constantValue := 0 }, { name := "$VALUES", type := (.array (.object "com/example/discharge/discharge/frontend/Expression$BinaryOperator")), accessFlags := 4122, slot := 16, constantValue := 0 }]
  methods := #[k6m0, k6m1]
  instanceTypes := #[(.object "java/lang/String"), .int, .int, (.object "java/lang/String"), .boolean]
  staticTypes := #[(.object "com/example/discharge/discharge/frontend/Expression$BinaryOperator"), (.object "com/example/discharge/discharge/frontend/Expression$BinaryOperator"), (.object "com/example/discharge/discharge/frontend/Expression$BinaryOperator"), (.object "com/example/discharge/discharge/frontend/Expression$BinaryOperator"), (.object "com/example/discharge/discharge/frontend/Expression$BinaryOperator"), (.object "com/example/discharge/discharge/frontend/Expression$BinaryOperator"), (.object "com/example/discharge/discharge/frontend/Expression$BinaryOperator"), (.object "com/example/discharge/discharge/frontend/Expression$BinaryOperator"), (.object "com/example/discharge/discharge/frontend/Expression$BinaryOperator"), (.object "com/example/discharge/discharge/frontend/Expression$BinaryOperator"), (.object "com/example/discharge/discharge/frontend/Expression$BinaryOperator"), (.object "com/example/discharge/discharge/frontend/Expression$BinaryOperator"), (.object "com/example/discharge/discharge/frontend/Expression$BinaryOperator"), (.object "com/example/discharge/discharge/frontend/Expression$BinaryOperator"), (.object "com/example/discharge/discharge/frontend/Expression$BinaryOperator"), (.object "com/example/discharge/discharge/frontend/Expression$BinaryOperator"), (.array (.object "com/example/discharge/discharge/frontend/Expression$BinaryOperator"))]
  resolved := Array.replicate 164 none
  statics := some 0 }

def pool7 : Array CpInfo := pool [(1, u "java/lang/Cloneable"), (0, .class_ 1), (0, u "java/lang/Object"), (0, .class_ 3)] 3

/-- java/lang/Cloneable -/
def k7 : Class := { plain "java/lang/Cloneable" (some 0) with
  accessFlags := 1537
  interfaces := #[]
  cf := some (fileOf pool7 2 #[] #[] 1537 4 #[] #[])
  fields := #[]
  methods := #[]
  instanceTypes := #[]
  staticTypes := #[]
  resolved := Array.replicate 8 none
  statics := none }

/-- the primitive byte -/
def k8 : Class := { plain "byte" none with kind := .primitive 'B', accessFlags := 0x411 }
/-- [B -/
def k9 : Class := { plain "[B" (some 0) with kind := .array 8 .byte, interfaces := #[7, 4], accessFlags := 1041 }

/-- the primitive int -/
def k10 : Class := { plain "int" none with kind := .primitive 'I', accessFlags := 0x411 }
/-- [I -/
def k11 : Class := { plain "[I" (some 0) with kind := .array 10 .int, interfaces := #[7, 4], accessFlags := 1041 }

/-- [Lcom/example/discharge/discharge/frontend/Expression$BinaryOperator; -/
def k12 : Class := { plain "[Lcom/example/discharge/discharge/frontend/Expression$BinaryOperator;" (some 0) with kind := .array 6 (.object "com/example/discharge/discharge/frontend/Expression$BinaryOperator"), interfaces := #[7, 4], accessFlags := 1041 }

def heap : Heap := #[{ cls := 6, slots := #[.ref 1, .ref 2, .ref 3, .ref 4, .ref 5, .ref 6, .ref 7, .ref 8, .ref 9, .ref 10, .ref 11, .ref 12, .ref 13, .ref 14, .ref 15, .ref 16, .null], vm := .statics 6 },
  { cls := 6, slots := #[.null, .int 0, .int 0, .null, .int 0], vm := .none },
  { cls := 6, slots := #[.null, .int 1, .int 0, .null, .int 0], vm := .none },
  { cls := 6, slots := #[.null, .int 2, .int 0, .null, .int 0], vm := .none },
  { cls := 6, slots := #[.null, .int 3, .int 0, .null, .int 0], vm := .none },
  { cls := 6, slots := #[.null, .int 4, .int 0, .null, .int 0], vm := .none },
  { cls := 6, slots := #[.null, .int 5, .int 0, .null, .int 0], vm := .none },
  { cls := 6, slots := #[.null, .int 6, .int 0, .null, .int 0], vm := .none },
  { cls := 6, slots := #[.null, .int 7, .int 0, .null, .int 0], vm := .none },
  { cls := 6, slots := #[.null, .int 8, .int 0, .null, .int 0], vm := .none },
  { cls := 6, slots := #[.null, .int 9, .int 0, .null, .int 0], vm := .none },
  { cls := 6, slots := #[.null, .int 10, .int 0, .null, .int 1], vm := .none },
  { cls := 6, slots := #[.null, .int 11, .int 0, .null, .int 1], vm := .none },
  { cls := 6, slots := #[.null, .int 12, .int 0, .null, .int 1], vm := .none },
  { cls := 6, slots := #[.null, .int 13, .int 0, .null, .int 1], vm := .none },
  { cls := 6, slots := #[.null, .int 14, .int 0, .null, .int 1], vm := .none },
  { cls := 6, slots := #[.null, .int 15, .int 0, .null, .int 1], vm := .none }]
def classes : Array Class := #[k0, k1, k2, k3, k4, k5, k6, k7, k8, k9, k10, k11, k12]
def interned : List (Array UInt16 × Addr) := []
def slotsUsed : Nat := 97
def theMethod : MethodId := ⟨1, 1⟩
def args0 : Array Value := #[.int 5]
def aboutOver (below : List Frame) : State where
  vm := { classes := classes, interned := interned.toArray }
  heap := heap
  slotsUsed := slotsUsed
  threads := #[{ frames := .invoking theMethod args0 :: below }]
def below0 : List Frame := [.native { method := ⟨0, 0⟩, args := #[] }]
def about1 : State := aboutOver below0
def p0 : Program := .bare "" "" ""
def e0 : Env := launch0.env 0 0 0
theorem w_frames : about1.frames = Frame.invoking theMethod args0 :: below0 := rfl
set_option maxRecDepth 65536 in
theorem w_args : argsFit about1.vm theMethod args0 = true := by decide +kernel
set_option maxRecDepth 65536 in
theorem w_heap : heapFits about1 = true := by decide +kernel
set_option maxRecDepth 65536 in
theorem w_runnable : about1.curStatus? = some .runnable := by decide +kernel
set_option maxRecDepth 65536 in
theorem w_alone : about1.alone = true := by decide +kernel
set_option maxRecDepth 65536 in
theorem w_named : about1.methodNamed? x = some theMethod := by decide +kernel
set_option maxRecDepth 65536 in
theorem w_hears : about1.hears theMethod below0 = true := by decide +kernel
set_option maxRecDepth 65536 in
theorem w_ripe : about1.ripe theMethod args0 below0 = true := by decide +kernel
theorem w_running : about1.status = .running := rfl
set_option maxRecDepth 65536 in
theorem w_room : about1.hasRoom e0.platform room_1 = true :=
  launch0.hasRoom_least _ room_1 (by decide +kernel) (by decide +kernel) (by decide +kernel) (by decide +kernel) (by decide +kernel) (by decide +kernel)
theorem allAtoms_all (ts : List Jvm.Cond) (a : Array Jvm.Value) (st : Jvm.State) : (allAtoms ts).before a st = ts.all (fun c => c.before a st) := by
  induction ts with
  | nil => rfl
  | cons c t ih =>
    show (Jvm.Cond.and c (allAtoms t)).before a st = _
    rw [Jvm.Cond.before_and, ih, List.all_cons]
def words1 : List Jvm.Cond := Jvm.Cond.code x code maxLocals ret :: tables_1
/-- a 'code' word, met by the world's own term for the bytes: nothing is compared byte by byte -/
theorem code_word {y : MethodName} {bytes : ByteArray} {mx : Nat} {rt : Option FieldType} {a : Array Value} {s : State} {m : MethodId} {meth : Method} {c : Code} (h1 : s.methodNamed? y = some m) (h2 : s.vm.method? m = some meth) (h3 : meth.code = some c) (h4 : c.code = bytes)
    (h5 : (c.maxLocals == mx && c.exceptionTable.isEmpty && decide (c.maxStack ≤ mostOperands) && decide (meth.sig.returnType = rt) && !meth.locks && decide (parseMethodDescriptor y.desc = some meth.sig)) = true) : (Jvm.Cond.code y bytes mx rt).before a s = true := by
  simp only [Bool.and_eq_true, beq_iff_eq, Bool.not_eq_true', decide_eq_true_eq] at h5
  obtain ⟨⟨⟨⟨⟨g1, g2⟩, g3⟩, g4⟩, g5⟩, g6⟩ := h5
  simp [Cond.before, Cond.holds, Cond.value, h1, h2, h3, h4, g1, g2, g3, g4, g5, g6]
def isCode : Jvm.Cond → Bool
  | .code _ _ _ _ => true
  | _ => false
theorem all_split {L : List Jvm.Cond} {P : Jvm.Cond → Bool} (h1 : L.all (fun c => isCode c || P c) = true) (h2 : ∀ c ∈ L.filter isCode, P c = true) : L.all P = true := by
  refine List.all_eq_true.mpr fun c hc => ?_
  have h := List.all_eq_true.mp h1 c hc
  rcases Bool.eq_false_or_eq_true (isCode c) with hi | hi
  · exact h2 c (List.mem_filter.mpr ⟨hc, hi⟩)
  · simpa [hi] using h
set_option maxRecDepth 65536 in
theorem w_c0 : (Jvm.Cond.code x code maxLocals ret).before args0 about1 = true := code_word (m := ⟨1, 1⟩) (meth := k1m1) (c := k1c1) (by decide +kernel) rfl rfl rfl (by decide +kernel)
set_option maxRecDepth 65536 in
theorem w_c1 : (Jvm.Cond.code ({ cls := "com/example/discharge/discharge/frontend/Expression$BinaryOperator", name := "isShift", desc := "()Z" } : Jvm.MethodName) prog_65_method_5_code (1 : Nat) (Option.some Jvm.ClassFile.FieldType.boolean)).before args0 about1 = true := code_word (m := ⟨6, 1⟩) (meth := k6m1) (c := k6c1) (by decide +kernel) rfl rfl rfl (by decide +kernel)
set_option maxRecDepth 65536 in
theorem w_c2 : (Jvm.Cond.code ({ cls := "com/example/discharge/discharge/frontend/Expression$BinaryOperator", name := "isComparison", desc := "()Z" } : Jvm.MethodName) prog_65_method_4_code (1 : Nat) (Option.some Jvm.ClassFile.FieldType.boolean)).before args0 about1 = true := code_word (m := ⟨6, 0⟩) (meth := k6m0) (c := k6c0) (by decide +kernel) rfl rfl rfl (by decide +kernel)
def codes1 : List Jvm.Cond := [Jvm.Cond.code x code maxLocals ret, Jvm.Cond.code ({ cls := "com/example/discharge/discharge/frontend/Expression$BinaryOperator", name := "isShift", desc := "()Z" } : Jvm.MethodName) prog_65_method_5_code (1 : Nat) (Option.some Jvm.ClassFile.FieldType.boolean), Jvm.Cond.code ({ cls := "com/example/discharge/discharge/frontend/Expression$BinaryOperator", name := "isComparison", desc := "()Z" } : Jvm.MethodName) prog_65_method_4_code (1 : Nat) (Option.some Jvm.ClassFile.FieldType.boolean)]
set_option maxRecDepth 65536 in
theorem codes_eq : words1.filter isCode = codes1 := rfl
theorem w_codes : ∀ c ∈ words1.filter isCode, c.before args0 about1 = true := by
  rw [codes_eq]
  intro c hc
  simp only [codes1, List.mem_cons, List.not_mem_nil, or_false] at hc
  rcases hc with rfl | rfl | rfl
  · exact w_c0
  · exact w_c1
  · exact w_c2
set_option maxRecDepth 65536 in
theorem w_t1 : (words1.take 24).all (fun c => isCode c || c.before args0 about1) = true := by decide +kernel
set_option maxRecDepth 65536 in
theorem w_t2 : ((words1.drop 24).take 24).all (fun c => isCode c || c.before args0 about1) = true := by decide +kernel
set_option maxRecDepth 65536 in
theorem w_t3 : ((words1.drop 24).drop 24).all (fun c => isCode c || c.before args0 about1) = true := by decide +kernel
theorem w_tables : (allAtoms (Jvm.Cond.code x code maxLocals ret :: tables_1)).before args0 about1 = true := by
  rw [allAtoms_all]
  show words1.all (fun c => c.before args0 about1) = true
  refine all_split ?_ w_codes
  rw [← List.take_append_drop 24 words1, List.all_append, w_t1, ← List.take_append_drop 24 (words1.drop 24), List.all_append, w_t2, w_t3]
  rfl
set_option maxRecDepth 65536 in
theorem w_case : (Jvm.Cond.and given_1 narrow_1).before args0 about1 = true := by decide +kernel
theorem w_applies : (headSpec (Jvm.Cond.code x code maxLocals ret :: tables_1) room_1).applies x e0.platform about1 = true :=
  (Spec.applies_iff w_frames).mpr ⟨w_running, w_runnable, w_alone, w_named, w_hears, w_ripe, w_room, w_tables⟩
theorem atStart : AtStart classFile x code maxLocals ret World_1 tables_1 room_1 Calls_1 rest_1 Pre_1 launch0 p0 e0 about1 theMethod args0 below0 :=
  ⟨lists_1, trivial, launch0.admits_env _ _ _, launch0.least_env, fairChoices_fair.cas, fairChoices_fair.clock, w_frames, w_args, w_heap, w_applies, trivial, trivial, w_case⟩
end start1
theorem witness_1 : WitnessClaimed_1 := ⟨start1.p0, start1.e0, start1.about1, start1.theMethod, start1.args0, start1.below0, start1.atStart⟩
end Jvm.Pilot.@@N@@
