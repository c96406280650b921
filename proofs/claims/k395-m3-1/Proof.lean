import JvmDerived
import JvmDerived.Pilot.@@N@@Statement
import JvmDerived.Pilot.@@N@@Code
set_option linter.unusedVariables false
set_option linter.unusedSimpArgs false
namespace Jvm.RoadKit
open Sem ClassFile Op Lib Jvm.Stand Jvm.Free Jvm.LawKit
section New
variable {p : Program} {l : Launch} {e : Env} {R : Room} {s : State} {m : MethodId} {args : Array Value} {below : List Frame} {meth : Method} {c : Code} {T : State} {locs : List Loc} {cells slots : Nat}
theorem retI (X : Stand p l e R s m args below meth c T locs cells slots) (hx : p.tables.exec = Jvm.exec) {pc : Nat} {Ls : Array Slot} {z : Int32} {rest : List Value} (hret : meth.sig.returnType = some .int) (hd : decode c.code pc = .ok (.ireturn, 1)) {fs : List Frame}
    (hl : ∀ (f : JFrame) (acts : List Action), f.method = m → f.locked = none → f.entered = [] → (doReturn e (T.setTop f) acts (some (.int z))).1 = T.setFrames fs) : Steps p.tables e below (T.setTop (mkF m pc Ls (.int z :: rest))) (T.setFrames fs) := by
  have hm' : T.vm.method? m = some meth := X.method'
  have hn : narrow .int (.int z) = .int z := rfl
  show Steps p.tables e below (T.setTop { method := m, pc := pc, locals := Ls, stack := _ :: rest, locked := none }) _
  jvm_step X.here [X.here.top, hx, hd, hm', hret, hn]
  first | (intro acts; rw [hl _ acts rfl rfl rfl]) | rw [hl _ _ rfl rfl rfl]
  exact Steps.refl _
end New
end Jvm.RoadKit
namespace Jvm.Pilot.@@N@@
open Jvm Jvm.ClassFile Sem Op Lib Jvm.Free Jvm.Stand Jvm.LawKit Jvm.RoadKit Bundle Jvm.Pilot.@@N@@.Jvm.D
theorem tk {L : List Jvm.Cond} {d : Jvm.Cond} (i : Nat) (h : L[i]? = some d) : d ∈ L := List.mem_of_getElem? h
/-! own small facts: what the case says of a pinned static's field -/
theorem own_fld {args : Array Value} {s : State} {t : Term} {C n d : String} {w : Addr} {k : Int32} (ht : t.eval args s none [] s = some (.ref w)) (h : (Cond.eq (.field t C n d) (.int k)).value args s none s [] = some true) : Fld s s.heap w C n d (.int k) := by
  obtain ⟨x, y, hx, hy, -, kin⟩ := cmp_v (Or.inl h)
  obtain rfl : Value.int k = y := Option.some.inj hy
  obtain ⟨z, rfl⟩ := kin
  have e : z = k := by simpa [Cond.value, hx, hy] using h
  subst e
  exact Fld.start ((fld_at ht).symm.trans hx)
theorem own_fldN {args : Array Value} {s : State} {t : Term} {C n d : String} {w : Addr} (ht : t.eval args s none [] s = some (.ref w)) (h : (Cond.eq (.field t C n d) .null).value args s none s [] = some true) : Fld s s.heap w C n d .null :=
  Fld.start ((fld_at ht).symm.trans (null_v h))
theorem own_nsroot {Z : State} {a0 : Array Value} {O K : String} {n : Nat} (w : (Cond.noSuperclass O).before a0 Z = true) (wk : (Cond.instantiable K n).before a0 Z = true) (hn : O ≠ K) : NS Z O K := by
  obtain ⟨c, k, h1, h2, h3, -, -⟩ := Cond.noSuperclass_spec w
  obtain ⟨t, -, g1, -⟩ := Cond.instantiable_spec wk
  have ne := ids_ne h1 g1 hn
  refine ⟨c, t, h1, g1, fun fuel => ?_⟩
  cases fuel with
  | zero => rfl
  | succ f => simp [Vm.isSubclassAux, ne, h2, h3]
theorem own_nsno {Z : State} {a0 : Array Value} {C S K : String} {n : Nat} (w : (Cond.superclass C S).before a0 Z = true) (wk : (Cond.instantiable K n).before a0 Z = true) (ns : NS Z C K) (hn : C ≠ K) : ∃ c t, Z.vm.findClass C = some c ∧ Z.vm.findClass K = some t ∧ Z.vm.assignable c t = false := by
  obtain ⟨c, t, h0, g0, n3⟩ := ns
  obtain ⟨p, k, kp, h1, h2, h3, h4, h5, -, h7⟩ := Cond.superclass_spec h0 w
  obtain ⟨t', k', g1, g2, g3, g4, -⟩ := Cond.instantiable_spec wk
  cases g0.symm.trans g1
  have ne := ids_ne h0 g0 hn
  have g5 : k'.isInterface = false := (Bool.or_eq_false_iff.mp g4).1
  refine ⟨c, t, h0, g0, ?_⟩
  show Z.vm.assignableAux (255 + 1) c t = false
  simp [Vm.assignableAux, ne, h2, g2, h5, g3, g5, Vm.isSubclass, n3]
theorem own_nar {v : Value} {C : String} (h : v.isRef = true) : narrow (.object C) v = v := by rcases ref_cases h with rfl | ⟨a, rfl⟩ <;> rfl
theorem own_fit {v : Value} {C : String} (h : v.isRef = true) : fits (.object C) v = true := by rcases ref_cases h with rfl | ⟨a, rfl⟩ <;> rfl
theorem own_refof {v : Value} (h : v.isRef = true) (n : ¬ v = .null) : ∃ a, v = .ref a := (ref_cases h).elim (fun q => absurd q n) id
theorem own_sint {args : Array Value} {s : State} {t : Term} {k : Int32} (h : (Cond.eq t (.int k)).value args s none s [] = some true) : t.eval args s none [] s = some (.int k) := by
  obtain ⟨x, y, hx, hy, -, kin⟩ := cmp_v (Or.inl h)
  obtain rfl : Value.int k = y := Option.some.inj hy
  obtain ⟨z, rfl⟩ := kin
  have e : z = k := by simpa [Cond.value, hx, hy] using h
  subst e; exact hx
theorem own_snot {args : Array Value} {s : State} {t : Term} {k z : Int32} (ht : t.eval args s none [] s = some (.int z)) (h : (Cond.not (Cond.eq t (.int k))).value args s none s [] = some true) : ¬ z = k := by
  have := not_v h
  intro e
  subst e
  simp [Cond.value, ht, Term.eval] at this
theorem own_seq {args : Array Value} {s : State} {t u : Term} {a b : Addr} (ht : t.eval args s none [] s = some (.ref a)) (hu : u.eval args s none [] s = some (.ref b)) (h : (Cond.eq t u).value args s none s [] = some true) : b = a := by
  have e : a = b := by simpa [Cond.value, ht, hu] using h
  exact e.symm
theorem own_len {args : Array Value} {s : State} {t : Term} {a : Addr} {c : Cell} {ty : FieldType} {n : Int32} (ht : t.eval args s none [] s = some (.ref a)) (A : Arr s s.heap a c ty) (h : (Cond.eq (.length t) (.int n)).value args s none s [] = some true) : c.slots.size < 2 ^ 31 ∧ c.slots.size.toInt32 = n := by
  have e0 := own_sint h
  have hfin := A.fin (Vm.Alike.refl _)
  by_cases hl : c.slots.size < 2 ^ 31
  · rw [len_f ht hfin hl] at e0
    exact ⟨hl, Value.int.inj (Option.some.inj e0)⟩
  · exfalso
    simp [Term.eval, ht, hfin, hl] at e0
theorem own_elem {args : Array Value} {s : State} {t u : Term} {a w : Addr} {c : Cell} {i : Int32} (ht : t.eval args s none [] s = some (.ref a)) (hc : s.heap[a]? = some c) (hu : u.eval args s none [] s = some (.ref w)) (h : (Cond.eq (.elem t (.int i)) u).value args s none s [] = some true) : c.slots[i.toNatClampNeg]? = some (.ref w) := by
  obtain ⟨x, y, hx, hy, k1, k2⟩ := cmp_v (Or.inl h)
  obtain rfl : Value.ref w = y := Option.some.inj (hu.symm.trans hy)
  have e := gotT (eq_R hx hu k2.2 rfl) h
  rw [e] at hx
  exact (elem_in hx ht (Term.int_eval i) hc).2
theorem own_ldcF {p : Program} {l : Launch} {e : Env} {R : Room} {s : State} {m : MethodId} {args : Array Value} {below : List Frame} {meth : Method} {c : Code} {T : State} {locs : List Loc} {cells slots : Nat}
    (X : Stand p l e R s m args below meth c T locs cells slots) (hx : p.tables.exec = Jvm.exec) {own : String} {index : Nat} {b : UInt32} (hown : s.vm.findClass own = some m.cls) (w : (Cond.constantFloat own index b).before args s = true) {g : JFrame} (hg : g.method = m) (hd : decode c.code g.pc = .ok (.ldc index, 2)) :
    ∀ target, Steps p.tables e below (T.setTop { g with pc := g.pc + 2, stack := .float b :: g.stack }) target → Steps p.tables e below (T.setTop g) target := by
  obtain ⟨k, cf, h1, h2, h3⟩ := Cond.constantFloat_spec hown w
  exact X.ldcFloat hx h1 h2 h3 hg hd
theorem own_old {Z : State} {n0 : Nat} {h : Heap} (O : Old Z n0 h) : n0 ≤ h.size := O.1 ▸ O.2.1
theorem own_rand (x m : Int32) (n : Int) (h0 : 0 ≤ m.toInt) (h1 : m.toInt < n) : 0 ≤ (x &&& m).toInt ∧ (x &&& m).toInt < n := by
  have := c_and x m h0; omega
theorem own_rrem (x y : Int32) (n : Int) (h0 : 0 ≤ x.toInt) (hy : y.toInt = n) (hn : 0 < n) : 0 ≤ (x % y).toInt ∧ (x % y).toInt < n := by
  rw [(c_irem x y n hy).1 h0]; exact ⟨Int.emod_nonneg _ (by omega), Int.emod_lt_of_pos _ hn⟩
theorem own_rshr (x q : Int32) (k : Nat) (m : Int) {n : Int} (r : 0 ≤ x.toInt ∧ x.toInt < n) (hk : q.toBitVec.toNat % 32 = k) (hm : (n - 1) / ((2 ^ k : Nat) : Int) < m) : 0 ≤ (x >>> (q &&& 31)).toInt ∧ (x >>> (q &&& 31)).toInt < m := by
  rw [c_ishr x q k hk]
  have hp : (0 : Int) < ((2 ^ k : Nat) : Int) := by exact_mod_cast Nat.two_pow_pos k
  exact ⟨Int.ediv_nonneg r.1 (Int.le_of_lt hp), Int.lt_of_le_of_lt (Int.ediv_le_ediv hp (by omega)) hm⟩
theorem own_off {e c : Int32} {n : Int} (r : 0 ≤ e.toInt ∧ e.toInt < n) (h : decide (n ≤ c.toInt ∨ c.toInt < 0) = true) : ¬ e = c := fun z => by
  subst z
  have := of_decide_eq_true h
  omega
theorem own_below {e c : Int32} {n : Int} (r : 0 ≤ e.toInt ∧ e.toInt < n) (h : n ≤ c.toInt) : e < c := by rw [Int32.lt_iff_toInt_lt]; omega
theorem own_notbelow {e c : Int32} {n : Int} (r : 0 ≤ e.toInt ∧ e.toInt < n) (h : c.toInt ≤ 0) : ¬ e < c := by rw [Int32.lt_iff_toInt_lt]; omega
theorem own_notabove {e c : Int32} {n : Int} (r : 0 ≤ e.toInt ∧ e.toInt < n) (h : n - 1 ≤ c.toInt) : ¬ c < e := by rw [Int32.lt_iff_toInt_lt]; omega
theorem own_above {e c : Int32} {n : Int} (r : 0 ≤ e.toInt ∧ e.toInt < n) (h : c.toInt < 0) : c < e := by rw [Int32.lt_iff_toInt_lt]; omega
theorem own_lt {a b : Int32} {n : Int} (h : a < b) (e : b.toInt = n) : a.toInt < n := by rw [← e]; exact Int32.lt_iff_toInt_lt.mp h
theorem own_ne {a b : Int32} {n : Int} (h : ¬ a = b) (e : b.toInt = n) : a.toInt ≠ n := fun z => h (Int32.toInt_inj.mp (z.trans e.symm))
theorem own_eq {a b : Int32} {n : Int} (e : b.toInt = n) (h : a.toInt = n) : a = b := Int32.toInt_inj.mp (h.trans e.symm)
theorem d1_0 : decode prog_8_method_5_code 0 = .ok (.iload_n 1, 1) := by decide +kernel
theorem d1_1 : decode prog_8_method_5_code 1 = .ok (.i2l, 1) := by decide +kernel
theorem d1_2 : decode prog_8_method_5_code 2 = .ok (.iload_n 1, 1) := by decide +kernel
theorem d1_3 : decode prog_8_method_5_code 3 = .ok (.iconst 1, 1) := by decide +kernel
theorem d1_4 : decode prog_8_method_5_code 4 = .ok (.isub, 1) := by decide +kernel
theorem d1_5 : decode prog_8_method_5_code 5 = .ok (.i2l, 1) := by decide +kernel
theorem d1_6 : decode prog_8_method_5_code 6 = .ok (.lmul, 1) := by decide +kernel
theorem d1_7 : decode prog_8_method_5_code 7 = .ok (.ldc2_w 63, 3) := by decide +kernel
theorem d1_10 : decode prog_8_method_5_code 10 = .ok (.ldiv, 1) := by decide +kernel
theorem d1_11 : decode prog_8_method_5_code 11 = .ok (.lstore_n 2, 1) := by decide +kernel
theorem d1_12 : decode prog_8_method_5_code 12 = .ok (.aload_n 0, 1) := by decide +kernel
theorem d1_13 : decode prog_8_method_5_code 13 = .ok (.getfield 50, 3) := by decide +kernel
theorem d1_16 : decode prog_8_method_5_code 16 = .ok (.ifCond .eq 7, 3) := by decide +kernel
theorem d1_23 : decode prog_8_method_5_code 23 = .ok (.lconst 0, 1) := by decide +kernel
theorem d1_24 : decode prog_8_method_5_code 24 = .ok (.aload_n 0, 1) := by decide +kernel
theorem d1_25 : decode prog_8_method_5_code 25 = .ok (.getfield 54, 3) := by decide +kernel
theorem d1_28 : decode prog_8_method_5_code 28 = .ok (.ifCond .eq 7, 3) := by decide +kernel
theorem d1_35 : decode prog_8_method_5_code 35 = .ok (.iconst 0, 1) := by decide +kernel
theorem d1_36 : decode prog_8_method_5_code 36 = .ok (.i2l, 1) := by decide +kernel
theorem d1_37 : decode prog_8_method_5_code 37 = .ok (.ladd, 1) := by decide +kernel
theorem d1_38 : decode prog_8_method_5_code 38 = .ok (.aload_n 0, 1) := by decide +kernel
theorem d1_39 : decode prog_8_method_5_code 39 = .ok (.getfield 57, 3) := by decide +kernel
theorem d1_42 : decode prog_8_method_5_code 42 = .ok (.ifCond .eq 7, 3) := by decide +kernel
theorem d1_49 : decode prog_8_method_5_code 49 = .ok (.lconst 0, 1) := by decide +kernel
theorem d1_50 : decode prog_8_method_5_code 50 = .ok (.ladd, 1) := by decide +kernel
theorem d1_51 : decode prog_8_method_5_code 51 = .ok (.lreturn, 1) := by decide +kernel
theorem d1_45 : decode prog_8_method_5_code 45 = .ok (.lload_n 2, 1) := by decide +kernel
theorem d1_46 : decode prog_8_method_5_code 46 = .ok (.goto 4, 3) := by decide +kernel
theorem d1_31 : decode prog_8_method_5_code 31 = .ok (.iload_n 1, 1) := by decide +kernel
theorem d1_32 : decode prog_8_method_5_code 32 = .ok (.goto 4, 3) := by decide +kernel
theorem d1_19 : decode prog_8_method_5_code 19 = .ok (.lload_n 2, 1) := by decide +kernel
theorem d1_20 : decode prog_8_method_5_code 20 = .ok (.goto 4, 3) := by decide +kernel
abbrev Y0 : MethodName := (⟨"com/example/onetree/onetree/EdgeWeightFormat", "count", "(I)J"⟩ : MethodName)
theorem pd_0 : parseMethodDescriptor "(I)J" = some ⟨[.int], some .long⟩ := by decide +kernel

def StF (Z : State) (w_1 : Addr) (w_2 : Addr) (w_3 : Addr) (w_4 : Addr) (w_5 : Addr) (w_6 : Addr) (w_7 : Addr) (w_8 : Addr) (w_9 : Addr) : Prop :=
  Sta Z Z.heap "com/example/onetree/onetree/EdgeWeightFormat" "FULL_MATRIX" "Lcom/example/onetree/onetree/EdgeWeightFormat;" (.ref w_1) ∧
  Exa Z Z.heap w_1 "com/example/onetree/onetree/EdgeWeightFormat" ∧
  Sta Z Z.heap "com/example/onetree/onetree/EdgeWeightFormat" "UPPER_ROW" "Lcom/example/onetree/onetree/EdgeWeightFormat;" (.ref w_2) ∧
  Exa Z Z.heap w_2 "com/example/onetree/onetree/EdgeWeightFormat" ∧
  Sta Z Z.heap "com/example/onetree/onetree/EdgeWeightFormat" "LOWER_ROW" "Lcom/example/onetree/onetree/EdgeWeightFormat;" (.ref w_3) ∧
  Exa Z Z.heap w_3 "com/example/onetree/onetree/EdgeWeightFormat" ∧
  Sta Z Z.heap "com/example/onetree/onetree/EdgeWeightFormat" "UPPER_DIAG_ROW" "Lcom/example/onetree/onetree/EdgeWeightFormat;" (.ref w_4) ∧
  Exa Z Z.heap w_4 "com/example/onetree/onetree/EdgeWeightFormat" ∧
  Sta Z Z.heap "com/example/onetree/onetree/EdgeWeightFormat" "LOWER_DIAG_ROW" "Lcom/example/onetree/onetree/EdgeWeightFormat;" (.ref w_5) ∧
  Exa Z Z.heap w_5 "com/example/onetree/onetree/EdgeWeightFormat" ∧
  Sta Z Z.heap "com/example/onetree/onetree/EdgeWeightFormat" "UPPER_COL" "Lcom/example/onetree/onetree/EdgeWeightFormat;" (.ref w_6) ∧
  Exa Z Z.heap w_6 "com/example/onetree/onetree/EdgeWeightFormat" ∧
  Sta Z Z.heap "com/example/onetree/onetree/EdgeWeightFormat" "LOWER_COL" "Lcom/example/onetree/onetree/EdgeWeightFormat;" (.ref w_7) ∧
  Exa Z Z.heap w_7 "com/example/onetree/onetree/EdgeWeightFormat" ∧
  Sta Z Z.heap "com/example/onetree/onetree/EdgeWeightFormat" "UPPER_DIAG_COL" "Lcom/example/onetree/onetree/EdgeWeightFormat;" (.ref w_8) ∧
  Exa Z Z.heap w_8 "com/example/onetree/onetree/EdgeWeightFormat" ∧
  Sta Z Z.heap "com/example/onetree/onetree/EdgeWeightFormat" "LOWER_DIAG_COL" "Lcom/example/onetree/onetree/EdgeWeightFormat;" (.ref w_9) ∧
  Exa Z Z.heap w_9 "com/example/onetree/onetree/EdgeWeightFormat" ∧
  Fld Z Z.heap w_1 "com/example/onetree/onetree/EdgeWeightFormat" "belowDiagonal" "Z" (.int (1 : Int32)) ∧
  Fld Z Z.heap w_1 "com/example/onetree/onetree/EdgeWeightFormat" "diagonal" "Z" (.int (1 : Int32)) ∧
  Fld Z Z.heap w_1 "com/example/onetree/onetree/EdgeWeightFormat" "aboveDiagonal" "Z" (.int (1 : Int32)) ∧
  Fld Z Z.heap w_6 "com/example/onetree/onetree/EdgeWeightFormat" "belowDiagonal" "Z" (.int (1 : Int32)) ∧
  Fld Z Z.heap w_6 "com/example/onetree/onetree/EdgeWeightFormat" "diagonal" "Z" (.int (0 : Int32)) ∧
  Fld Z Z.heap w_6 "com/example/onetree/onetree/EdgeWeightFormat" "aboveDiagonal" "Z" (.int (0 : Int32)) ∧
  Fld Z Z.heap w_5 "com/example/onetree/onetree/EdgeWeightFormat" "belowDiagonal" "Z" (.int (1 : Int32)) ∧
  Fld Z Z.heap w_5 "com/example/onetree/onetree/EdgeWeightFormat" "diagonal" "Z" (.int (1 : Int32)) ∧
  Fld Z Z.heap w_5 "com/example/onetree/onetree/EdgeWeightFormat" "aboveDiagonal" "Z" (.int (0 : Int32)) ∧
  Fld Z Z.heap w_2 "com/example/onetree/onetree/EdgeWeightFormat" "belowDiagonal" "Z" (.int (0 : Int32)) ∧
  Fld Z Z.heap w_2 "com/example/onetree/onetree/EdgeWeightFormat" "diagonal" "Z" (.int (0 : Int32)) ∧
  Fld Z Z.heap w_2 "com/example/onetree/onetree/EdgeWeightFormat" "aboveDiagonal" "Z" (.int (1 : Int32)) ∧
  Fld Z Z.heap w_7 "com/example/onetree/onetree/EdgeWeightFormat" "belowDiagonal" "Z" (.int (0 : Int32)) ∧
  Fld Z Z.heap w_7 "com/example/onetree/onetree/EdgeWeightFormat" "diagonal" "Z" (.int (0 : Int32)) ∧
  Fld Z Z.heap w_7 "com/example/onetree/onetree/EdgeWeightFormat" "aboveDiagonal" "Z" (.int (1 : Int32)) ∧
  Fld Z Z.heap w_9 "com/example/onetree/onetree/EdgeWeightFormat" "belowDiagonal" "Z" (.int (0 : Int32)) ∧
  Fld Z Z.heap w_9 "com/example/onetree/onetree/EdgeWeightFormat" "diagonal" "Z" (.int (1 : Int32)) ∧
  Fld Z Z.heap w_9 "com/example/onetree/onetree/EdgeWeightFormat" "aboveDiagonal" "Z" (.int (1 : Int32)) ∧
  Fld Z Z.heap w_4 "com/example/onetree/onetree/EdgeWeightFormat" "belowDiagonal" "Z" (.int (0 : Int32)) ∧
  Fld Z Z.heap w_4 "com/example/onetree/onetree/EdgeWeightFormat" "diagonal" "Z" (.int (1 : Int32)) ∧
  Fld Z Z.heap w_4 "com/example/onetree/onetree/EdgeWeightFormat" "aboveDiagonal" "Z" (.int (1 : Int32)) ∧
  Fld Z Z.heap w_3 "com/example/onetree/onetree/EdgeWeightFormat" "belowDiagonal" "Z" (.int (1 : Int32)) ∧
  Fld Z Z.heap w_3 "com/example/onetree/onetree/EdgeWeightFormat" "diagonal" "Z" (.int (0 : Int32)) ∧
  Fld Z Z.heap w_3 "com/example/onetree/onetree/EdgeWeightFormat" "aboveDiagonal" "Z" (.int (0 : Int32)) ∧
  Fld Z Z.heap w_8 "com/example/onetree/onetree/EdgeWeightFormat" "belowDiagonal" "Z" (.int (1 : Int32)) ∧
  Fld Z Z.heap w_8 "com/example/onetree/onetree/EdgeWeightFormat" "diagonal" "Z" (.int (1 : Int32)) ∧
  Fld Z Z.heap w_8 "com/example/onetree/onetree/EdgeWeightFormat" "aboveDiagonal" "Z" (.int (0 : Int32))
theorem pn_1 : plainName "com/example/onetree/onetree/EdgeWeightFormat" = true := by first | (simp [plainName, overriddenIn]; done) | decide +kernel
theorem ef_1 (m : MethodId) (r0 : Addr) (p1 : Int32) : entryFrame m #[(.ref r0), (.int p1)] 4 = mkF m 0 #[.val (.ref r0), .val (.int p1), .unset, .unset] [] := by first | (simp [entryFrame, mkF, argsToLocals, Value.category]; done) | rfl
def sp1 (p1 : Int32) (f_belowDiagonal_r0 : Int32) (f_diagonal_r0 : Int32) (f_aboveDiagonal_r0 : Int32) : Int64 := (if f_belowDiagonal_r0 = (0 : Int32) then (if f_diagonal_r0 = (0 : Int32) then (if f_aboveDiagonal_r0 = (0 : Int32) then (((0 : Int64) + ((0 : Int32).toInt64)) + (0 : Int64)) else (((0 : Int64) + ((0 : Int32).toInt64)) + (((p1.toInt64) * ((p1 - (1 : Int32)).toInt64)) / (2 : Int64)))) else (if f_aboveDiagonal_r0 = (0 : Int32) then (((0 : Int64) + (p1.toInt64)) + (0 : Int64)) else (((0 : Int64) + (p1.toInt64)) + (((p1.toInt64) * ((p1 - (1 : Int32)).toInt64)) / (2 : Int64))))) else (if f_diagonal_r0 = (0 : Int32) then (if f_aboveDiagonal_r0 = (0 : Int32) then (((((p1.toInt64) * ((p1 - (1 : Int32)).toInt64)) / (2 : Int64)) + ((0 : Int32).toInt64)) + (0 : Int64)) else (((((p1.toInt64) * ((p1 - (1 : Int32)).toInt64)) / (2 : Int64)) + ((0 : Int32).toInt64)) + (((p1.toInt64) * ((p1 - (1 : Int32)).toInt64)) / (2 : Int64)))) else (if f_aboveDiagonal_r0 = (0 : Int32) then (((((p1.toInt64) * ((p1 - (1 : Int32)).toInt64)) / (2 : Int64)) + (p1.toInt64)) + (0 : Int64)) else (((((p1.toInt64) * ((p1 - (1 : Int32)).toInt64)) / (2 : Int64)) + (p1.toInt64)) + (((p1.toInt64) * ((p1 - (1 : Int32)).toInt64)) / (2 : Int64))))))
def Q1 (Z : State) (w_1 : Addr) (w_2 : Addr) (w_3 : Addr) (w_4 : Addr) (w_5 : Addr) (w_6 : Addr) (w_7 : Addr) (w_8 : Addr) (w_9 : Addr) (r0 : Addr) (p1 : Int32) (f_belowDiagonal_r0 : Int32) (f_diagonal_r0 : Int32) (f_aboveDiagonal_r0 : Int32) (h0 : Heap) (n0 : Nat) (v : Option Value) (h : Heap) (L : List Loc) : Prop := v = some (.long (sp1 p1 f_belowDiagonal_r0 f_diagonal_r0 f_aboveDiagonal_r0)) ∧ Fr n0 L ∧ h = h0
set_option maxRecDepth 65536 in
set_option maxHeartbeats 40000000 in
theorem rm1 (l : Launch) (Z : State) (a0 : Array Value) (hw : ∀ d ∈ tables_1, d.before a0 Z = true) (ws : List Jvm.Cond) (w_1 : Addr) (w_2 : Addr) (w_3 : Addr) (w_4 : Addr) (w_5 : Addr) (w_6 : Addr) (w_7 : Addr) (w_8 : Addr) (w_9 : Addr) (hS : StF Z w_1 w_2 w_3 w_4 w_5 w_6 w_7 w_8 w_9) (r0 : Addr) (p1 : Int32) (f_belowDiagonal_r0 : Int32) (f_diagonal_r0 : Int32) (f_aboveDiagonal_r0 : Int32) (h0 : Heap) (n0 : Nat) (O0 : Old Z n0 h0) (F_belowDiagonal_r0 : Fld Z h0 r0 "com/example/onetree/onetree/EdgeWeightFormat" "belowDiagonal" "Z" (.int f_belowDiagonal_r0)) (F_diagonal_r0 : Fld Z h0 r0 "com/example/onetree/onetree/EdgeWeightFormat" "diagonal" "Z" (.int f_diagonal_r0)) (F_aboveDiagonal_r0 : Fld Z h0 r0 "com/example/onetree/onetree/EdgeWeightFormat" "aboveDiagonal" "Z" (.int f_aboveDiagonal_r0)) :
    MetFree l Y0 (head1 (Jvm.Cond.code Y0 prog_8_method_5_code 4 (some .long) :: ws) ({ frames := 0, cells := 0, slots := 0, locals := 0 } : Room)) (fun a U => a = #[(.ref r0), (.int p1)] ∧ Z.Warmed39 U.vm ∧ U.heap = h0) (fun _ _ _ _ _ => True) (fun _ U o U' => ∃ v L, o = .returned v ∧ Q1 Z w_1 w_2 w_3 w_4 w_5 w_6 w_7 w_8 w_9 r0 p1 f_belowDiagonal_r0 f_diagonal_r0 f_aboveDiagonal_r0 h0 n0 v U'.heap L ∧ FrameEnd U o U' L ({ frames := 0, cells := 0, slots := 0, locals := 0 } : Room).cells ({ frames := 0, cells := 0, slots := 0, locals := 0 } : Room).slots) := by
  refine MetFree.of_bodySF (plainFor_of_name pn_1) hisR ?_
  intro p e s m args below meth c s₁ Bd hml0 hP hK
  obtain ⟨rfl, hZ, hh⟩ := hP
  have hx := Bd.exec
  have hby := Bd.bytes
  have hml : c.maxLocals = 4 := hml0
  have hown : s.vm.findClass "com/example/onetree/onetree/EdgeWeightFormat" = some m.cls := findClass_of_methodNamed Bd.named
  have hnm := (name_of_methodNamed Bd.named Bd.method).1
  have X0 : Stand p l e ({ frames := 0, cells := 0, slots := 0, locals := 0 } : Room) s m #[(.ref r0), (.int p1)] below meth c s₁ [] 0 0 := Stand.of_body Bd
  have e0 : s₁.heap = h0 := by rw [← hh, Bd.state]; rfl
  have N0 := Fr.nil n0
  have hS0 := hS
  obtain ⟨S_1, E_1, S_2, E_2, S_3, E_3, S_4, E_4, S_5, E_5, S_6, E_6, S_7, E_7, S_8, E_8, S_9, E_9, F_1_belowDiagonal, F_1_diagonal, F_1_aboveDiagonal, F_6_belowDiagonal, F_6_diagonal, F_6_aboveDiagonal, F_5_belowDiagonal, F_5_diagonal, F_5_aboveDiagonal, F_2_belowDiagonal, F_2_diagonal, F_2_aboveDiagonal, F_7_belowDiagonal, F_7_diagonal, F_7_aboveDiagonal, F_9_belowDiagonal, F_9_diagonal, F_9_aboveDiagonal, F_4_belowDiagonal, F_4_diagonal, F_4_aboveDiagonal, F_3_belowDiagonal, F_3_diagonal, F_3_aboveDiagonal, F_8_belowDiagonal, F_8_diagonal, F_8_aboveDiagonal⟩ := hS
  have pre0 : ∀ t, Steps p.tables e below (s₁.setTop (mkF m 0 #[.val (.ref r0), .val (.int p1), .unset, .unset] [])) t → Steps p.tables e below (s₁.setTop (entryFrame m #[(.ref r0), (.int p1)] 4)) t := fun t k => castTop (ef_1 m r0 p1) k
  obtain ⟨T104, X104, e104, st104⟩ := getF X0 hx hZ hown (host := "") (Or.inl (hw _ (tk 29 rfl))) Via.refl e0 F_belowDiagonal_r0 (g := (mkF m 13 #[.val (.ref r0), .val (.int p1), .val (.long (((p1.toInt64) * ((p1 - (1 : Int32)).toInt64)) / (2 : Int64))), .second] [(.ref r0)])) rfl rfl (hb hby d1_13)
  have pre105 : ∀ t, Steps p.tables e below (T104.setTop (mkF m 16 #[.val (.ref r0), .val (.int p1), .val (.long (((p1.toInt64) * ((p1 - (1 : Int32)).toInt64)) / (2 : Int64))), .second] [(.int f_belowDiagonal_r0)])) t → Steps p.tables e below (s₁.setTop (entryFrame m #[(.ref r0), (.int p1)] 4)) t := fun t kt => by
    refine pre0 t ?_
    show Steps p.tables e below (s₁.setTop (mkF m 0 #[.val (.ref r0), .val (.int p1), .unset, .unset] [])) _
    refine XS.iloadN X0.here hx rfl (hb hby d1_0) rfl ?_
    show Steps p.tables e below (s₁.setTop (mkF m 1 #[.val (.ref r0), .val (.int p1), .unset, .unset] [(.int p1)])) _
    refine XS.i2l X0.here hx rfl (hb hby d1_1) rfl ?_
    show Steps p.tables e below (s₁.setTop (mkF m 2 #[.val (.ref r0), .val (.int p1), .unset, .unset] [(.long (p1.toInt64))])) _
    refine XS.iloadN X0.here hx rfl (hb hby d1_2) rfl ?_
    show Steps p.tables e below (s₁.setTop (mkF m 3 #[.val (.ref r0), .val (.int p1), .unset, .unset] [(.int p1), (.long (p1.toInt64))])) _
    refine XS.iconst X0.here hx rfl (hb hby d1_3) ?_
    show Steps p.tables e below (s₁.setTop (mkF m 4 #[.val (.ref r0), .val (.int p1), .unset, .unset] [(.int (1 : Int32)), (.int p1), (.long (p1.toInt64))])) _
    refine XS.isub X0.here hx rfl (hb hby d1_4) rfl ?_
    show Steps p.tables e below (s₁.setTop (mkF m 5 #[.val (.ref r0), .val (.int p1), .unset, .unset] [(.int (p1 - (1 : Int32))), (.long (p1.toInt64))])) _
    refine XS.i2l X0.here hx rfl (hb hby d1_5) rfl ?_
    show Steps p.tables e below (s₁.setTop (mkF m 6 #[.val (.ref r0), .val (.int p1), .unset, .unset] [(.long ((p1 - (1 : Int32)).toInt64)), (.long (p1.toInt64))])) _
    refine XS.lmul X0.here hx rfl (hb hby d1_6) rfl ?_
    show Steps p.tables e below (s₁.setTop (mkF m 7 #[.val (.ref r0), .val (.int p1), .unset, .unset] [(.long ((p1.toInt64) * ((p1 - (1 : Int32)).toInt64)))])) _
    refine X0.ldc2Long hx hown (mvT hZ (hw _ (tk 28 rfl))) (g := (mkF m 7 #[.val (.ref r0), .val (.int p1), .unset, .unset] [(.long ((p1.toInt64) * ((p1 - (1 : Int32)).toInt64)))])) rfl (hb hby d1_7) _ ?_
    show Steps p.tables e below (s₁.setTop (mkF m 10 #[.val (.ref r0), .val (.int p1), .unset, .unset] [(.long (2 : Int64)), (.long ((p1.toInt64) * ((p1 - (1 : Int32)).toInt64)))])) _
    refine XS.ldiv X0.here hx rfl (hb hby d1_10) rfl (by decide : ¬ ((2 : Int64) = (0 : Int64))) ?_
    show Steps p.tables e below (s₁.setTop (mkF m 11 #[.val (.ref r0), .val (.int p1), .unset, .unset] [(.long (((p1.toInt64) * ((p1 - (1 : Int32)).toInt64)) / (2 : Int64)))])) _
    refine XS.lstoreN X0.here hx rfl (hb hby d1_11) rfl (l' := #[.val (.ref r0), .val (.int p1), .val (.long (((p1.toInt64) * ((p1 - (1 : Int32)).toInt64)) / (2 : Int64))), .second]) rfl ?_
    show Steps p.tables e below (s₁.setTop (mkF m 12 #[.val (.ref r0), .val (.int p1), .val (.long (((p1.toInt64) * ((p1 - (1 : Int32)).toInt64)) / (2 : Int64))), .second] [])) _
    refine XS.aloadN X0.here hx rfl (hb hby d1_12) rfl rfl ?_
    show Steps p.tables e below (s₁.setTop (mkF m 13 #[.val (.ref r0), .val (.int p1), .val (.long (((p1.toInt64) * ((p1 - (1 : Int32)).toInt64)) / (2 : Int64))), .second] [(.ref r0)])) _
    refine st104 _ ?_
    show Steps p.tables e below (T104.setTop (mkF m 16 #[.val (.ref r0), .val (.int p1), .val (.long (((p1.toInt64) * ((p1 - (1 : Int32)).toInt64)) / (2 : Int64))), .second] [(.int f_belowDiagonal_r0)])) _
    exact kt
  by_cases hc106 : f_belowDiagonal_r0 = (0 : Int32)
  · obtain ⟨T107, X107, e107, st107⟩ := getF X104 hx hZ hown (host := "") (Or.inl (hw _ (tk 31 rfl))) Via.refl e104 F_diagonal_r0 (g := (mkF m 25 #[.val (.ref r0), .val (.int p1), .val (.long (((p1.toInt64) * ((p1 - (1 : Int32)).toInt64)) / (2 : Int64))), .second] [(.ref r0), (.long (0 : Int64))])) rfl rfl (hb hby d1_25)
    have pre108 : ∀ t, Steps p.tables e below (T107.setTop (mkF m 28 #[.val (.ref r0), .val (.int p1), .val (.long (((p1.toInt64) * ((p1 - (1 : Int32)).toInt64)) / (2 : Int64))), .second] [(.int f_diagonal_r0), (.long (0 : Int64))])) t → Steps p.tables e below (s₁.setTop (entryFrame m #[(.ref r0), (.int p1)] 4)) t := fun t kt => by
      refine pre105 t ?_
      show Steps p.tables e below (T104.setTop (mkF m 16 #[.val (.ref r0), .val (.int p1), .val (.long (((p1.toInt64) * ((p1 - (1 : Int32)).toInt64)) / (2 : Int64))), .second] [(.int f_belowDiagonal_r0)])) _
      refine XS.ifYes X104.here hx rfl (pc0 := 16) (pc' := 23) rfl (hb hby d1_16) rfl ((if0 _ _).trans (teq hc106).1) (by decide) (by decide) ?_
      show Steps p.tables e below (T104.setTop (mkF m 23 #[.val (.ref r0), .val (.int p1), .val (.long (((p1.toInt64) * ((p1 - (1 : Int32)).toInt64)) / (2 : Int64))), .second] [])) _
      refine XS.lconst X104.here hx rfl (hb hby d1_23) ?_
      show Steps p.tables e below (T104.setTop (mkF m 24 #[.val (.ref r0), .val (.int p1), .val (.long (((p1.toInt64) * ((p1 - (1 : Int32)).toInt64)) / (2 : Int64))), .second] [(.long (0 : Int64))])) _
      refine XS.aloadN X104.here hx rfl (hb hby d1_24) rfl rfl ?_
      show Steps p.tables e below (T104.setTop (mkF m 25 #[.val (.ref r0), .val (.int p1), .val (.long (((p1.toInt64) * ((p1 - (1 : Int32)).toInt64)) / (2 : Int64))), .second] [(.ref r0), (.long (0 : Int64))])) _
      refine st107 _ ?_
      show Steps p.tables e below (T107.setTop (mkF m 28 #[.val (.ref r0), .val (.int p1), .val (.long (((p1.toInt64) * ((p1 - (1 : Int32)).toInt64)) / (2 : Int64))), .second] [(.int f_diagonal_r0), (.long (0 : Int64))])) _
      exact kt
    by_cases hc109 : f_diagonal_r0 = (0 : Int32)
    · obtain ⟨T110, X110, e110, st110⟩ := getF X107 hx hZ hown (host := "") (Or.inl (hw _ (tk 33 rfl))) Via.refl e107 F_aboveDiagonal_r0 (g := (mkF m 39 #[.val (.ref r0), .val (.int p1), .val (.long (((p1.toInt64) * ((p1 - (1 : Int32)).toInt64)) / (2 : Int64))), .second] [(.ref r0), (.long ((0 : Int64) + ((0 : Int32).toInt64)))])) rfl rfl (hb hby d1_39)
      have pre111 : ∀ t, Steps p.tables e below (T110.setTop (mkF m 42 #[.val (.ref r0), .val (.int p1), .val (.long (((p1.toInt64) * ((p1 - (1 : Int32)).toInt64)) / (2 : Int64))), .second] [(.int f_aboveDiagonal_r0), (.long ((0 : Int64) + ((0 : Int32).toInt64)))])) t → Steps p.tables e below (s₁.setTop (entryFrame m #[(.ref r0), (.int p1)] 4)) t := fun t kt => by
        refine pre108 t ?_
        show Steps p.tables e below (T107.setTop (mkF m 28 #[.val (.ref r0), .val (.int p1), .val (.long (((p1.toInt64) * ((p1 - (1 : Int32)).toInt64)) / (2 : Int64))), .second] [(.int f_diagonal_r0), (.long (0 : Int64))])) _
        refine XS.ifYes X107.here hx rfl (pc0 := 28) (pc' := 35) rfl (hb hby d1_28) rfl ((if0 _ _).trans (teq hc109).1) (by decide) (by decide) ?_
        show Steps p.tables e below (T107.setTop (mkF m 35 #[.val (.ref r0), .val (.int p1), .val (.long (((p1.toInt64) * ((p1 - (1 : Int32)).toInt64)) / (2 : Int64))), .second] [(.long (0 : Int64))])) _
        refine XS.iconst X107.here hx rfl (hb hby d1_35) ?_
        show Steps p.tables e below (T107.setTop (mkF m 36 #[.val (.ref r0), .val (.int p1), .val (.long (((p1.toInt64) * ((p1 - (1 : Int32)).toInt64)) / (2 : Int64))), .second] [(.int (0 : Int32)), (.long (0 : Int64))])) _
        refine XS.i2l X107.here hx rfl (hb hby d1_36) rfl ?_
        show Steps p.tables e below (T107.setTop (mkF m 37 #[.val (.ref r0), .val (.int p1), .val (.long (((p1.toInt64) * ((p1 - (1 : Int32)).toInt64)) / (2 : Int64))), .second] [(.long ((0 : Int32).toInt64)), (.long (0 : Int64))])) _
        refine XS.ladd X107.here hx rfl (hb hby d1_37) rfl ?_
        show Steps p.tables e below (T107.setTop (mkF m 38 #[.val (.ref r0), .val (.int p1), .val (.long (((p1.toInt64) * ((p1 - (1 : Int32)).toInt64)) / (2 : Int64))), .second] [(.long ((0 : Int64) + ((0 : Int32).toInt64)))])) _
        refine XS.aloadN X107.here hx rfl (hb hby d1_38) rfl rfl ?_
        show Steps p.tables e below (T107.setTop (mkF m 39 #[.val (.ref r0), .val (.int p1), .val (.long (((p1.toInt64) * ((p1 - (1 : Int32)).toInt64)) / (2 : Int64))), .second] [(.ref r0), (.long ((0 : Int64) + ((0 : Int32).toInt64)))])) _
        refine st110 _ ?_
        show Steps p.tables e below (T110.setTop (mkF m 42 #[.val (.ref r0), .val (.int p1), .val (.long (((p1.toInt64) * ((p1 - (1 : Int32)).toInt64)) / (2 : Int64))), .second] [(.int f_aboveDiagonal_r0), (.long ((0 : Int64) + ((0 : Int32).toInt64)))])) _
        exact kt
      by_cases hc112 : f_aboveDiagonal_r0 = (0 : Int32)
      · obtain ⟨fs, hr, hrun, hended, hW, hsame⟩ := X110.leave (v := some (.long (((0 : Int64) + ((0 : Int32).toInt64)) + (0 : Int64)))) (fun h => by rw [Bd.returns] at h; cases h)
        refine ⟨_, _, pre111 _ ?_, hrun, hended, _, _, rfl, ?_, ⟨_, rfl⟩, hW, hsame.mono (by decide) (by decide)⟩
        · show Steps p.tables e below (T110.setTop (mkF m 42 #[.val (.ref r0), .val (.int p1), .val (.long (((p1.toInt64) * ((p1 - (1 : Int32)).toInt64)) / (2 : Int64))), .second] [(.int f_aboveDiagonal_r0), (.long ((0 : Int64) + ((0 : Int32).toInt64)))])) _
          refine XS.ifYes X110.here hx rfl (pc0 := 42) (pc' := 49) rfl (hb hby d1_42) rfl ((if0 _ _).trans (teq hc112).1) (by decide) (by decide) ?_
          show Steps p.tables e below (T110.setTop (mkF m 49 #[.val (.ref r0), .val (.int p1), .val (.long (((p1.toInt64) * ((p1 - (1 : Int32)).toInt64)) / (2 : Int64))), .second] [(.long ((0 : Int64) + ((0 : Int32).toInt64)))])) _
          refine XS.lconst X110.here hx rfl (hb hby d1_49) ?_
          show Steps p.tables e below (T110.setTop (mkF m 50 #[.val (.ref r0), .val (.int p1), .val (.long (((p1.toInt64) * ((p1 - (1 : Int32)).toInt64)) / (2 : Int64))), .second] [(.long (0 : Int64)), (.long ((0 : Int64) + ((0 : Int32).toInt64)))])) _
          refine XS.ladd X110.here hx rfl (hb hby d1_50) rfl ?_
          show Steps p.tables e below (T110.setTop (mkF m 51 #[.val (.ref r0), .val (.int p1), .val (.long (((p1.toInt64) * ((p1 - (1 : Int32)).toInt64)) / (2 : Int64))), .second] [(.long (((0 : Int64) + ((0 : Int32).toInt64)) + (0 : Int64)))])) _
          exact retOut X110 hx (t := .long) (i := .lreturn) Bd.returns rfl (Or.inr (Or.inl ⟨rfl, rfl, _, rfl⟩)) (hb hby d1_51) hr
        · show Q1 Z w_1 w_2 w_3 w_4 w_5 w_6 w_7 w_8 w_9 r0 p1 f_belowDiagonal_r0 f_diagonal_r0 f_aboveDiagonal_r0 h0 n0 _ T110.heap _
          rw [e110]
          exact ⟨by unfold sp1; rw [if_pos hc106, if_pos hc109, if_pos hc112], N0, rfl⟩
      · obtain ⟨fs, hr, hrun, hended, hW, hsame⟩ := X110.leave (v := some (.long (((0 : Int64) + ((0 : Int32).toInt64)) + (((p1.toInt64) * ((p1 - (1 : Int32)).toInt64)) / (2 : Int64))))) (fun h => by rw [Bd.returns] at h; cases h)
        refine ⟨_, _, pre111 _ ?_, hrun, hended, _, _, rfl, ?_, ⟨_, rfl⟩, hW, hsame.mono (by decide) (by decide)⟩
        · show Steps p.tables e below (T110.setTop (mkF m 42 #[.val (.ref r0), .val (.int p1), .val (.long (((p1.toInt64) * ((p1 - (1 : Int32)).toInt64)) / (2 : Int64))), .second] [(.int f_aboveDiagonal_r0), (.long ((0 : Int64) + ((0 : Int32).toInt64)))])) _
          refine XS.ifNo X110.here hx rfl (hb hby d1_42) rfl ((if0 _ _).trans (feq hc112).1) ?_
          show Steps p.tables e below (T110.setTop (mkF m 45 #[.val (.ref r0), .val (.int p1), .val (.long (((p1.toInt64) * ((p1 - (1 : Int32)).toInt64)) / (2 : Int64))), .second] [(.long ((0 : Int64) + ((0 : Int32).toInt64)))])) _
          refine XS.lloadN X110.here hx rfl (hb hby d1_45) rfl ?_
          show Steps p.tables e below (T110.setTop (mkF m 46 #[.val (.ref r0), .val (.int p1), .val (.long (((p1.toInt64) * ((p1 - (1 : Int32)).toInt64)) / (2 : Int64))), .second] [(.long (((p1.toInt64) * ((p1 - (1 : Int32)).toInt64)) / (2 : Int64))), (.long ((0 : Int64) + ((0 : Int32).toInt64)))])) _
          refine XS.goto X110.here hx rfl (pc0 := 46) (pc' := 50) rfl (hb hby d1_46) (by decide) (by decide) ?_
          show Steps p.tables e below (T110.setTop (mkF m 50 #[.val (.ref r0), .val (.int p1), .val (.long (((p1.toInt64) * ((p1 - (1 : Int32)).toInt64)) / (2 : Int64))), .second] [(.long (((p1.toInt64) * ((p1 - (1 : Int32)).toInt64)) / (2 : Int64))), (.long ((0 : Int64) + ((0 : Int32).toInt64)))])) _
          refine XS.ladd X110.here hx rfl (hb hby d1_50) rfl ?_
          show Steps p.tables e below (T110.setTop (mkF m 51 #[.val (.ref r0), .val (.int p1), .val (.long (((p1.toInt64) * ((p1 - (1 : Int32)).toInt64)) / (2 : Int64))), .second] [(.long (((0 : Int64) + ((0 : Int32).toInt64)) + (((p1.toInt64) * ((p1 - (1 : Int32)).toInt64)) / (2 : Int64))))])) _
          exact retOut X110 hx (t := .long) (i := .lreturn) Bd.returns rfl (Or.inr (Or.inl ⟨rfl, rfl, _, rfl⟩)) (hb hby d1_51) hr
        · show Q1 Z w_1 w_2 w_3 w_4 w_5 w_6 w_7 w_8 w_9 r0 p1 f_belowDiagonal_r0 f_diagonal_r0 f_aboveDiagonal_r0 h0 n0 _ T110.heap _
          rw [e110]
          exact ⟨by unfold sp1; rw [if_pos hc106, if_pos hc109, if_neg hc112], N0, rfl⟩
    · obtain ⟨T113, X113, e113, st113⟩ := getF X107 hx hZ hown (host := "") (Or.inl (hw _ (tk 33 rfl))) Via.refl e107 F_aboveDiagonal_r0 (g := (mkF m 39 #[.val (.ref r0), .val (.int p1), .val (.long (((p1.toInt64) * ((p1 - (1 : Int32)).toInt64)) / (2 : Int64))), .second] [(.ref r0), (.long ((0 : Int64) + (p1.toInt64)))])) rfl rfl (hb hby d1_39)
      have pre114 : ∀ t, Steps p.tables e below (T113.setTop (mkF m 42 #[.val (.ref r0), .val (.int p1), .val (.long (((p1.toInt64) * ((p1 - (1 : Int32)).toInt64)) / (2 : Int64))), .second] [(.int f_aboveDiagonal_r0), (.long ((0 : Int64) + (p1.toInt64)))])) t → Steps p.tables e below (s₁.setTop (entryFrame m #[(.ref r0), (.int p1)] 4)) t := fun t kt => by
        refine pre108 t ?_
        show Steps p.tables e below (T107.setTop (mkF m 28 #[.val (.ref r0), .val (.int p1), .val (.long (((p1.toInt64) * ((p1 - (1 : Int32)).toInt64)) / (2 : Int64))), .second] [(.int f_diagonal_r0), (.long (0 : Int64))])) _
        refine XS.ifNo X107.here hx rfl (hb hby d1_28) rfl ((if0 _ _).trans (feq hc109).1) ?_
        show Steps p.tables e below (T107.setTop (mkF m 31 #[.val (.ref r0), .val (.int p1), .val (.long (((p1.toInt64) * ((p1 - (1 : Int32)).toInt64)) / (2 : Int64))), .second] [(.long (0 : Int64))])) _
        refine XS.iloadN X107.here hx rfl (hb hby d1_31) rfl ?_
        show Steps p.tables e below (T107.setTop (mkF m 32 #[.val (.ref r0), .val (.int p1), .val (.long (((p1.toInt64) * ((p1 - (1 : Int32)).toInt64)) / (2 : Int64))), .second] [(.int p1), (.long (0 : Int64))])) _
        refine XS.goto X107.here hx rfl (pc0 := 32) (pc' := 36) rfl (hb hby d1_32) (by decide) (by decide) ?_
        show Steps p.tables e below (T107.setTop (mkF m 36 #[.val (.ref r0), .val (.int p1), .val (.long (((p1.toInt64) * ((p1 - (1 : Int32)).toInt64)) / (2 : Int64))), .second] [(.int p1), (.long (0 : Int64))])) _
        refine XS.i2l X107.here hx rfl (hb hby d1_36) rfl ?_
        show Steps p.tables e below (T107.setTop (mkF m 37 #[.val (.ref r0), .val (.int p1), .val (.long (((p1.toInt64) * ((p1 - (1 : Int32)).toInt64)) / (2 : Int64))), .second] [(.long (p1.toInt64)), (.long (0 : Int64))])) _
        refine XS.ladd X107.here hx rfl (hb hby d1_37) rfl ?_
        show Steps p.tables e below (T107.setTop (mkF m 38 #[.val (.ref r0), .val (.int p1), .val (.long (((p1.toInt64) * ((p1 - (1 : Int32)).toInt64)) / (2 : Int64))), .second] [(.long ((0 : Int64) + (p1.toInt64)))])) _
        refine XS.aloadN X107.here hx rfl (hb hby d1_38) rfl rfl ?_
        show Steps p.tables e below (T107.setTop (mkF m 39 #[.val (.ref r0), .val (.int p1), .val (.long (((p1.toInt64) * ((p1 - (1 : Int32)).toInt64)) / (2 : Int64))), .second] [(.ref r0), (.long ((0 : Int64) + (p1.toInt64)))])) _
        refine st113 _ ?_
        show Steps p.tables e below (T113.setTop (mkF m 42 #[.val (.ref r0), .val (.int p1), .val (.long (((p1.toInt64) * ((p1 - (1 : Int32)).toInt64)) / (2 : Int64))), .second] [(.int f_aboveDiagonal_r0), (.long ((0 : Int64) + (p1.toInt64)))])) _
        exact kt
      by_cases hc115 : f_aboveDiagonal_r0 = (0 : Int32)
      · obtain ⟨fs, hr, hrun, hended, hW, hsame⟩ := X113.leave (v := some (.long (((0 : Int64) + (p1.toInt64)) + (0 : Int64)))) (fun h => by rw [Bd.returns] at h; cases h)
        refine ⟨_, _, pre114 _ ?_, hrun, hended, _, _, rfl, ?_, ⟨_, rfl⟩, hW, hsame.mono (by decide) (by decide)⟩
        · show Steps p.tables e below (T113.setTop (mkF m 42 #[.val (.ref r0), .val (.int p1), .val (.long (((p1.toInt64) * ((p1 - (1 : Int32)).toInt64)) / (2 : Int64))), .second] [(.int f_aboveDiagonal_r0), (.long ((0 : Int64) + (p1.toInt64)))])) _
          refine XS.ifYes X113.here hx rfl (pc0 := 42) (pc' := 49) rfl (hb hby d1_42) rfl ((if0 _ _).trans (teq hc115).1) (by decide) (by decide) ?_
          show Steps p.tables e below (T113.setTop (mkF m 49 #[.val (.ref r0), .val (.int p1), .val (.long (((p1.toInt64) * ((p1 - (1 : Int32)).toInt64)) / (2 : Int64))), .second] [(.long ((0 : Int64) + (p1.toInt64)))])) _
          refine XS.lconst X113.here hx rfl (hb hby d1_49) ?_
          show Steps p.tables e below (T113.setTop (mkF m 50 #[.val (.ref r0), .val (.int p1), .val (.long (((p1.toInt64) * ((p1 - (1 : Int32)).toInt64)) / (2 : Int64))), .second] [(.long (0 : Int64)), (.long ((0 : Int64) + (p1.toInt64)))])) _
          refine XS.ladd X113.here hx rfl (hb hby d1_50) rfl ?_
          show Steps p.tables e below (T113.setTop (mkF m 51 #[.val (.ref r0), .val (.int p1), .val (.long (((p1.toInt64) * ((p1 - (1 : Int32)).toInt64)) / (2 : Int64))), .second] [(.long (((0 : Int64) + (p1.toInt64)) + (0 : Int64)))])) _
          exact retOut X113 hx (t := .long) (i := .lreturn) Bd.returns rfl (Or.inr (Or.inl ⟨rfl, rfl, _, rfl⟩)) (hb hby d1_51) hr
        · show Q1 Z w_1 w_2 w_3 w_4 w_5 w_6 w_7 w_8 w_9 r0 p1 f_belowDiagonal_r0 f_diagonal_r0 f_aboveDiagonal_r0 h0 n0 _ T113.heap _
          rw [e113]
          exact ⟨by unfold sp1; rw [if_pos hc106, if_neg hc109, if_pos hc115], N0, rfl⟩
      · obtain ⟨fs, hr, hrun, hended, hW, hsame⟩ := X113.leave (v := some (.long (((0 : Int64) + (p1.toInt64)) + (((p1.toInt64) * ((p1 - (1 : Int32)).toInt64)) / (2 : Int64))))) (fun h => by rw [Bd.returns] at h; cases h)
        refine ⟨_, _, pre114 _ ?_, hrun, hended, _, _, rfl, ?_, ⟨_, rfl⟩, hW, hsame.mono (by decide) (by decide)⟩
        · show Steps p.tables e below (T113.setTop (mkF m 42 #[.val (.ref r0), .val (.int p1), .val (.long (((p1.toInt64) * ((p1 - (1 : Int32)).toInt64)) / (2 : Int64))), .second] [(.int f_aboveDiagonal_r0), (.long ((0 : Int64) + (p1.toInt64)))])) _
          refine XS.ifNo X113.here hx rfl (hb hby d1_42) rfl ((if0 _ _).trans (feq hc115).1) ?_
          show Steps p.tables e below (T113.setTop (mkF m 45 #[.val (.ref r0), .val (.int p1), .val (.long (((p1.toInt64) * ((p1 - (1 : Int32)).toInt64)) / (2 : Int64))), .second] [(.long ((0 : Int64) + (p1.toInt64)))])) _
          refine XS.lloadN X113.here hx rfl (hb hby d1_45) rfl ?_
          show Steps p.tables e below (T113.setTop (mkF m 46 #[.val (.ref r0), .val (.int p1), .val (.long (((p1.toInt64) * ((p1 - (1 : Int32)).toInt64)) / (2 : Int64))), .second] [(.long (((p1.toInt64) * ((p1 - (1 : Int32)).toInt64)) / (2 : Int64))), (.long ((0 : Int64) + (p1.toInt64)))])) _
          refine XS.goto X113.here hx rfl (pc0 := 46) (pc' := 50) rfl (hb hby d1_46) (by decide) (by decide) ?_
          show Steps p.tables e below (T113.setTop (mkF m 50 #[.val (.ref r0), .val (.int p1), .val (.long (((p1.toInt64) * ((p1 - (1 : Int32)).toInt64)) / (2 : Int64))), .second] [(.long (((p1.toInt64) * ((p1 - (1 : Int32)).toInt64)) / (2 : Int64))), (.long ((0 : Int64) + (p1.toInt64)))])) _
          refine XS.ladd X113.here hx rfl (hb hby d1_50) rfl ?_
          show Steps p.tables e below (T113.setTop (mkF m 51 #[.val (.ref r0), .val (.int p1), .val (.long (((p1.toInt64) * ((p1 - (1 : Int32)).toInt64)) / (2 : Int64))), .second] [(.long (((0 : Int64) + (p1.toInt64)) + (((p1.toInt64) * ((p1 - (1 : Int32)).toInt64)) / (2 : Int64))))])) _
          exact retOut X113 hx (t := .long) (i := .lreturn) Bd.returns rfl (Or.inr (Or.inl ⟨rfl, rfl, _, rfl⟩)) (hb hby d1_51) hr
        · show Q1 Z w_1 w_2 w_3 w_4 w_5 w_6 w_7 w_8 w_9 r0 p1 f_belowDiagonal_r0 f_diagonal_r0 f_aboveDiagonal_r0 h0 n0 _ T113.heap _
          rw [e113]
          exact ⟨by unfold sp1; rw [if_pos hc106, if_neg hc109, if_neg hc115], N0, rfl⟩
  · obtain ⟨T116, X116, e116, st116⟩ := getF X104 hx hZ hown (host := "") (Or.inl (hw _ (tk 31 rfl))) Via.refl e104 F_diagonal_r0 (g := (mkF m 25 #[.val (.ref r0), .val (.int p1), .val (.long (((p1.toInt64) * ((p1 - (1 : Int32)).toInt64)) / (2 : Int64))), .second] [(.ref r0), (.long (((p1.toInt64) * ((p1 - (1 : Int32)).toInt64)) / (2 : Int64)))])) rfl rfl (hb hby d1_25)
    have pre117 : ∀ t, Steps p.tables e below (T116.setTop (mkF m 28 #[.val (.ref r0), .val (.int p1), .val (.long (((p1.toInt64) * ((p1 - (1 : Int32)).toInt64)) / (2 : Int64))), .second] [(.int f_diagonal_r0), (.long (((p1.toInt64) * ((p1 - (1 : Int32)).toInt64)) / (2 : Int64)))])) t → Steps p.tables e below (s₁.setTop (entryFrame m #[(.ref r0), (.int p1)] 4)) t := fun t kt => by
      refine pre105 t ?_
      show Steps p.tables e below (T104.setTop (mkF m 16 #[.val (.ref r0), .val (.int p1), .val (.long (((p1.toInt64) * ((p1 - (1 : Int32)).toInt64)) / (2 : Int64))), .second] [(.int f_belowDiagonal_r0)])) _
      refine XS.ifNo X104.here hx rfl (hb hby d1_16) rfl ((if0 _ _).trans (feq hc106).1) ?_
      show Steps p.tables e below (T104.setTop (mkF m 19 #[.val (.ref r0), .val (.int p1), .val (.long (((p1.toInt64) * ((p1 - (1 : Int32)).toInt64)) / (2 : Int64))), .second] [])) _
      refine XS.lloadN X104.here hx rfl (hb hby d1_19) rfl ?_
      show Steps p.tables e below (T104.setTop (mkF m 20 #[.val (.ref r0), .val (.int p1), .val (.long (((p1.toInt64) * ((p1 - (1 : Int32)).toInt64)) / (2 : Int64))), .second] [(.long (((p1.toInt64) * ((p1 - (1 : Int32)).toInt64)) / (2 : Int64)))])) _
      refine XS.goto X104.here hx rfl (pc0 := 20) (pc' := 24) rfl (hb hby d1_20) (by decide) (by decide) ?_
      show Steps p.tables e below (T104.setTop (mkF m 24 #[.val (.ref r0), .val (.int p1), .val (.long (((p1.toInt64) * ((p1 - (1 : Int32)).toInt64)) / (2 : Int64))), .second] [(.long (((p1.toInt64) * ((p1 - (1 : Int32)).toInt64)) / (2 : Int64)))])) _
      refine XS.aloadN X104.here hx rfl (hb hby d1_24) rfl rfl ?_
      show Steps p.tables e below (T104.setTop (mkF m 25 #[.val (.ref r0), .val (.int p1), .val (.long (((p1.toInt64) * ((p1 - (1 : Int32)).toInt64)) / (2 : Int64))), .second] [(.ref r0), (.long (((p1.toInt64) * ((p1 - (1 : Int32)).toInt64)) / (2 : Int64)))])) _
      refine st116 _ ?_
      show Steps p.tables e below (T116.setTop (mkF m 28 #[.val (.ref r0), .val (.int p1), .val (.long (((p1.toInt64) * ((p1 - (1 : Int32)).toInt64)) / (2 : Int64))), .second] [(.int f_diagonal_r0), (.long (((p1.toInt64) * ((p1 - (1 : Int32)).toInt64)) / (2 : Int64)))])) _
      exact kt
    by_cases hc118 : f_diagonal_r0 = (0 : Int32)
    · obtain ⟨T119, X119, e119, st119⟩ := getF X116 hx hZ hown (host := "") (Or.inl (hw _ (tk 33 rfl))) Via.refl e116 F_aboveDiagonal_r0 (g := (mkF m 39 #[.val (.ref r0), .val (.int p1), .val (.long (((p1.toInt64) * ((p1 - (1 : Int32)).toInt64)) / (2 : Int64))), .second] [(.ref r0), (.long ((((p1.toInt64) * ((p1 - (1 : Int32)).toInt64)) / (2 : Int64)) + ((0 : Int32).toInt64)))])) rfl rfl (hb hby d1_39)
      have pre120 : ∀ t, Steps p.tables e below (T119.setTop (mkF m 42 #[.val (.ref r0), .val (.int p1), .val (.long (((p1.toInt64) * ((p1 - (1 : Int32)).toInt64)) / (2 : Int64))), .second] [(.int f_aboveDiagonal_r0), (.long ((((p1.toInt64) * ((p1 - (1 : Int32)).toInt64)) / (2 : Int64)) + ((0 : Int32).toInt64)))])) t → Steps p.tables e below (s₁.setTop (entryFrame m #[(.ref r0), (.int p1)] 4)) t := fun t kt => by
        refine pre117 t ?_
        show Steps p.tables e below (T116.setTop (mkF m 28 #[.val (.ref r0), .val (.int p1), .val (.long (((p1.toInt64) * ((p1 - (1 : Int32)).toInt64)) / (2 : Int64))), .second] [(.int f_diagonal_r0), (.long (((p1.toInt64) * ((p1 - (1 : Int32)).toInt64)) / (2 : Int64)))])) _
        refine XS.ifYes X116.here hx rfl (pc0 := 28) (pc' := 35) rfl (hb hby d1_28) rfl ((if0 _ _).trans (teq hc118).1) (by decide) (by decide) ?_
        show Steps p.tables e below (T116.setTop (mkF m 35 #[.val (.ref r0), .val (.int p1), .val (.long (((p1.toInt64) * ((p1 - (1 : Int32)).toInt64)) / (2 : Int64))), .second] [(.long (((p1.toInt64) * ((p1 - (1 : Int32)).toInt64)) / (2 : Int64)))])) _
        refine XS.iconst X116.here hx rfl (hb hby d1_35) ?_
        show Steps p.tables e below (T116.setTop (mkF m 36 #[.val (.ref r0), .val (.int p1), .val (.long (((p1.toInt64) * ((p1 - (1 : Int32)).toInt64)) / (2 : Int64))), .second] [(.int (0 : Int32)), (.long (((p1.toInt64) * ((p1 - (1 : Int32)).toInt64)) / (2 : Int64)))])) _
        refine XS.i2l X116.here hx rfl (hb hby d1_36) rfl ?_
        show Steps p.tables e below (T116.setTop (mkF m 37 #[.val (.ref r0), .val (.int p1), .val (.long (((p1.toInt64) * ((p1 - (1 : Int32)).toInt64)) / (2 : Int64))), .second] [(.long ((0 : Int32).toInt64)), (.long (((p1.toInt64) * ((p1 - (1 : Int32)).toInt64)) / (2 : Int64)))])) _
        refine XS.ladd X116.here hx rfl (hb hby d1_37) rfl ?_
        show Steps p.tables e below (T116.setTop (mkF m 38 #[.val (.ref r0), .val (.int p1), .val (.long (((p1.toInt64) * ((p1 - (1 : Int32)).toInt64)) / (2 : Int64))), .second] [(.long ((((p1.toInt64) * ((p1 - (1 : Int32)).toInt64)) / (2 : Int64)) + ((0 : Int32).toInt64)))])) _
        refine XS.aloadN X116.here hx rfl (hb hby d1_38) rfl rfl ?_
        show Steps p.tables e below (T116.setTop (mkF m 39 #[.val (.ref r0), .val (.int p1), .val (.long (((p1.toInt64) * ((p1 - (1 : Int32)).toInt64)) / (2 : Int64))), .second] [(.ref r0), (.long ((((p1.toInt64) * ((p1 - (1 : Int32)).toInt64)) / (2 : Int64)) + ((0 : Int32).toInt64)))])) _
        refine st119 _ ?_
        show Steps p.tables e below (T119.setTop (mkF m 42 #[.val (.ref r0), .val (.int p1), .val (.long (((p1.toInt64) * ((p1 - (1 : Int32)).toInt64)) / (2 : Int64))), .second] [(.int f_aboveDiagonal_r0), (.long ((((p1.toInt64) * ((p1 - (1 : Int32)).toInt64)) / (2 : Int64)) + ((0 : Int32).toInt64)))])) _
        exact kt
      by_cases hc121 : f_aboveDiagonal_r0 = (0 : Int32)
      · obtain ⟨fs, hr, hrun, hended, hW, hsame⟩ := X119.leave (v := some (.long (((((p1.toInt64) * ((p1 - (1 : Int32)).toInt64)) / (2 : Int64)) + ((0 : Int32).toInt64)) + (0 : Int64)))) (fun h => by rw [Bd.returns] at h; cases h)
        refine ⟨_, _, pre120 _ ?_, hrun, hended, _, _, rfl, ?_, ⟨_, rfl⟩, hW, hsame.mono (by decide) (by decide)⟩
        · show Steps p.tables e below (T119.setTop (mkF m 42 #[.val (.ref r0), .val (.int p1), .val (.long (((p1.toInt64) * ((p1 - (1 : Int32)).toInt64)) / (2 : Int64))), .second] [(.int f_aboveDiagonal_r0), (.long ((((p1.toInt64) * ((p1 - (1 : Int32)).toInt64)) / (2 : Int64)) + ((0 : Int32).toInt64)))])) _
          refine XS.ifYes X119.here hx rfl (pc0 := 42) (pc' := 49) rfl (hb hby d1_42) rfl ((if0 _ _).trans (teq hc121).1) (by decide) (by decide) ?_
          show Steps p.tables e below (T119.setTop (mkF m 49 #[.val (.ref r0), .val (.int p1), .val (.long (((p1.toInt64) * ((p1 - (1 : Int32)).toInt64)) / (2 : Int64))), .second] [(.long ((((p1.toInt64) * ((p1 - (1 : Int32)).toInt64)) / (2 : Int64)) + ((0 : Int32).toInt64)))])) _
          refine XS.lconst X119.here hx rfl (hb hby d1_49) ?_
          show Steps p.tables e below (T119.setTop (mkF m 50 #[.val (.ref r0), .val (.int p1), .val (.long (((p1.toInt64) * ((p1 - (1 : Int32)).toInt64)) / (2 : Int64))), .second] [(.long (0 : Int64)), (.long ((((p1.toInt64) * ((p1 - (1 : Int32)).toInt64)) / (2 : Int64)) + ((0 : Int32).toInt64)))])) _
          refine XS.ladd X119.here hx rfl (hb hby d1_50) rfl ?_
          show Steps p.tables e below (T119.setTop (mkF m 51 #[.val (.ref r0), .val (.int p1), .val (.long (((p1.toInt64) * ((p1 - (1 : Int32)).toInt64)) / (2 : Int64))), .second] [(.long (((((p1.toInt64) * ((p1 - (1 : Int32)).toInt64)) / (2 : Int64)) + ((0 : Int32).toInt64)) + (0 : Int64)))])) _
          exact retOut X119 hx (t := .long) (i := .lreturn) Bd.returns rfl (Or.inr (Or.inl ⟨rfl, rfl, _, rfl⟩)) (hb hby d1_51) hr
        · show Q1 Z w_1 w_2 w_3 w_4 w_5 w_6 w_7 w_8 w_9 r0 p1 f_belowDiagonal_r0 f_diagonal_r0 f_aboveDiagonal_r0 h0 n0 _ T119.heap _
          rw [e119]
          exact ⟨by unfold sp1; rw [if_neg hc106, if_pos hc118, if_pos hc121], N0, rfl⟩
      · obtain ⟨fs, hr, hrun, hended, hW, hsame⟩ := X119.leave (v := some (.long (((((p1.toInt64) * ((p1 - (1 : Int32)).toInt64)) / (2 : Int64)) + ((0 : Int32).toInt64)) + (((p1.toInt64) * ((p1 - (1 : Int32)).toInt64)) / (2 : Int64))))) (fun h => by rw [Bd.returns] at h; cases h)
        refine ⟨_, _, pre120 _ ?_, hrun, hended, _, _, rfl, ?_, ⟨_, rfl⟩, hW, hsame.mono (by decide) (by decide)⟩
        · show Steps p.tables e below (T119.setTop (mkF m 42 #[.val (.ref r0), .val (.int p1), .val (.long (((p1.toInt64) * ((p1 - (1 : Int32)).toInt64)) / (2 : Int64))), .second] [(.int f_aboveDiagonal_r0), (.long ((((p1.toInt64) * ((p1 - (1 : Int32)).toInt64)) / (2 : Int64)) + ((0 : Int32).toInt64)))])) _
          refine XS.ifNo X119.here hx rfl (hb hby d1_42) rfl ((if0 _ _).trans (feq hc121).1) ?_
          show Steps p.tables e below (T119.setTop (mkF m 45 #[.val (.ref r0), .val (.int p1), .val (.long (((p1.toInt64) * ((p1 - (1 : Int32)).toInt64)) / (2 : Int64))), .second] [(.long ((((p1.toInt64) * ((p1 - (1 : Int32)).toInt64)) / (2 : Int64)) + ((0 : Int32).toInt64)))])) _
          refine XS.lloadN X119.here hx rfl (hb hby d1_45) rfl ?_
          show Steps p.tables e below (T119.setTop (mkF m 46 #[.val (.ref r0), .val (.int p1), .val (.long (((p1.toInt64) * ((p1 - (1 : Int32)).toInt64)) / (2 : Int64))), .second] [(.long (((p1.toInt64) * ((p1 - (1 : Int32)).toInt64)) / (2 : Int64))), (.long ((((p1.toInt64) * ((p1 - (1 : Int32)).toInt64)) / (2 : Int64)) + ((0 : Int32).toInt64)))])) _
          refine XS.goto X119.here hx rfl (pc0 := 46) (pc' := 50) rfl (hb hby d1_46) (by decide) (by decide) ?_
          show Steps p.tables e below (T119.setTop (mkF m 50 #[.val (.ref r0), .val (.int p1), .val (.long (((p1.toInt64) * ((p1 - (1 : Int32)).toInt64)) / (2 : Int64))), .second] [(.long (((p1.toInt64) * ((p1 - (1 : Int32)).toInt64)) / (2 : Int64))), (.long ((((p1.toInt64) * ((p1 - (1 : Int32)).toInt64)) / (2 : Int64)) + ((0 : Int32).toInt64)))])) _
          refine XS.ladd X119.here hx rfl (hb hby d1_50) rfl ?_
          show Steps p.tables e below (T119.setTop (mkF m 51 #[.val (.ref r0), .val (.int p1), .val (.long (((p1.toInt64) * ((p1 - (1 : Int32)).toInt64)) / (2 : Int64))), .second] [(.long (((((p1.toInt64) * ((p1 - (1 : Int32)).toInt64)) / (2 : Int64)) + ((0 : Int32).toInt64)) + (((p1.toInt64) * ((p1 - (1 : Int32)).toInt64)) / (2 : Int64))))])) _
          exact retOut X119 hx (t := .long) (i := .lreturn) Bd.returns rfl (Or.inr (Or.inl ⟨rfl, rfl, _, rfl⟩)) (hb hby d1_51) hr
        · show Q1 Z w_1 w_2 w_3 w_4 w_5 w_6 w_7 w_8 w_9 r0 p1 f_belowDiagonal_r0 f_diagonal_r0 f_aboveDiagonal_r0 h0 n0 _ T119.heap _
          rw [e119]
          exact ⟨by unfold sp1; rw [if_neg hc106, if_pos hc118, if_neg hc121], N0, rfl⟩
    · obtain ⟨T122, X122, e122, st122⟩ := getF X116 hx hZ hown (host := "") (Or.inl (hw _ (tk 33 rfl))) Via.refl e116 F_aboveDiagonal_r0 (g := (mkF m 39 #[.val (.ref r0), .val (.int p1), .val (.long (((p1.toInt64) * ((p1 - (1 : Int32)).toInt64)) / (2 : Int64))), .second] [(.ref r0), (.long ((((p1.toInt64) * ((p1 - (1 : Int32)).toInt64)) / (2 : Int64)) + (p1.toInt64)))])) rfl rfl (hb hby d1_39)
      have pre123 : ∀ t, Steps p.tables e below (T122.setTop (mkF m 42 #[.val (.ref r0), .val (.int p1), .val (.long (((p1.toInt64) * ((p1 - (1 : Int32)).toInt64)) / (2 : Int64))), .second] [(.int f_aboveDiagonal_r0), (.long ((((p1.toInt64) * ((p1 - (1 : Int32)).toInt64)) / (2 : Int64)) + (p1.toInt64)))])) t → Steps p.tables e below (s₁.setTop (entryFrame m #[(.ref r0), (.int p1)] 4)) t := fun t kt => by
        refine pre117 t ?_
        show Steps p.tables e below (T116.setTop (mkF m 28 #[.val (.ref r0), .val (.int p1), .val (.long (((p1.toInt64) * ((p1 - (1 : Int32)).toInt64)) / (2 : Int64))), .second] [(.int f_diagonal_r0), (.long (((p1.toInt64) * ((p1 - (1 : Int32)).toInt64)) / (2 : Int64)))])) _
        refine XS.ifNo X116.here hx rfl (hb hby d1_28) rfl ((if0 _ _).trans (feq hc118).1) ?_
        show Steps p.tables e below (T116.setTop (mkF m 31 #[.val (.ref r0), .val (.int p1), .val (.long (((p1.toInt64) * ((p1 - (1 : Int32)).toInt64)) / (2 : Int64))), .second] [(.long (((p1.toInt64) * ((p1 - (1 : Int32)).toInt64)) / (2 : Int64)))])) _
        refine XS.iloadN X116.here hx rfl (hb hby d1_31) rfl ?_
        show Steps p.tables e below (T116.setTop (mkF m 32 #[.val (.ref r0), .val (.int p1), .val (.long (((p1.toInt64) * ((p1 - (1 : Int32)).toInt64)) / (2 : Int64))), .second] [(.int p1), (.long (((p1.toInt64) * ((p1 - (1 : Int32)).toInt64)) / (2 : Int64)))])) _
        refine XS.goto X116.here hx rfl (pc0 := 32) (pc' := 36) rfl (hb hby d1_32) (by decide) (by decide) ?_
        show Steps p.tables e below (T116.setTop (mkF m 36 #[.val (.ref r0), .val (.int p1), .val (.long (((p1.toInt64) * ((p1 - (1 : Int32)).toInt64)) / (2 : Int64))), .second] [(.int p1), (.long (((p1.toInt64) * ((p1 - (1 : Int32)).toInt64)) / (2 : Int64)))])) _
        refine XS.i2l X116.here hx rfl (hb hby d1_36) rfl ?_
        show Steps p.tables e below (T116.setTop (mkF m 37 #[.val (.ref r0), .val (.int p1), .val (.long (((p1.toInt64) * ((p1 - (1 : Int32)).toInt64)) / (2 : Int64))), .second] [(.long (p1.toInt64)), (.long (((p1.toInt64) * ((p1 - (1 : Int32)).toInt64)) / (2 : Int64)))])) _
        refine XS.ladd X116.here hx rfl (hb hby d1_37) rfl ?_
        show Steps p.tables e below (T116.setTop (mkF m 38 #[.val (.ref r0), .val (.int p1), .val (.long (((p1.toInt64) * ((p1 - (1 : Int32)).toInt64)) / (2 : Int64))), .second] [(.long ((((p1.toInt64) * ((p1 - (1 : Int32)).toInt64)) / (2 : Int64)) + (p1.toInt64)))])) _
        refine XS.aloadN X116.here hx rfl (hb hby d1_38) rfl rfl ?_
        show Steps p.tables e below (T116.setTop (mkF m 39 #[.val (.ref r0), .val (.int p1), .val (.long (((p1.toInt64) * ((p1 - (1 : Int32)).toInt64)) / (2 : Int64))), .second] [(.ref r0), (.long ((((p1.toInt64) * ((p1 - (1 : Int32)).toInt64)) / (2 : Int64)) + (p1.toInt64)))])) _
        refine st122 _ ?_
        show Steps p.tables e below (T122.setTop (mkF m 42 #[.val (.ref r0), .val (.int p1), .val (.long (((p1.toInt64) * ((p1 - (1 : Int32)).toInt64)) / (2 : Int64))), .second] [(.int f_aboveDiagonal_r0), (.long ((((p1.toInt64) * ((p1 - (1 : Int32)).toInt64)) / (2 : Int64)) + (p1.toInt64)))])) _
        exact kt
      by_cases hc124 : f_aboveDiagonal_r0 = (0 : Int32)
      · obtain ⟨fs, hr, hrun, hended, hW, hsame⟩ := X122.leave (v := some (.long (((((p1.toInt64) * ((p1 - (1 : Int32)).toInt64)) / (2 : Int64)) + (p1.toInt64)) + (0 : Int64)))) (fun h => by rw [Bd.returns] at h; cases h)
        refine ⟨_, _, pre123 _ ?_, hrun, hended, _, _, rfl, ?_, ⟨_, rfl⟩, hW, hsame.mono (by decide) (by decide)⟩
        · show Steps p.tables e below (T122.setTop (mkF m 42 #[.val (.ref r0), .val (.int p1), .val (.long (((p1.toInt64) * ((p1 - (1 : Int32)).toInt64)) / (2 : Int64))), .second] [(.int f_aboveDiagonal_r0), (.long ((((p1.toInt64) * ((p1 - (1 : Int32)).toInt64)) / (2 : Int64)) + (p1.toInt64)))])) _
          refine XS.ifYes X122.here hx rfl (pc0 := 42) (pc' := 49) rfl (hb hby d1_42) rfl ((if0 _ _).trans (teq hc124).1) (by decide) (by decide) ?_
          show Steps p.tables e below (T122.setTop (mkF m 49 #[.val (.ref r0), .val (.int p1), .val (.long (((p1.toInt64) * ((p1 - (1 : Int32)).toInt64)) / (2 : Int64))), .second] [(.long ((((p1.toInt64) * ((p1 - (1 : Int32)).toInt64)) / (2 : Int64)) + (p1.toInt64)))])) _
          refine XS.lconst X122.here hx rfl (hb hby d1_49) ?_
          show Steps p.tables e below (T122.setTop (mkF m 50 #[.val (.ref r0), .val (.int p1), .val (.long (((p1.toInt64) * ((p1 - (1 : Int32)).toInt64)) / (2 : Int64))), .second] [(.long (0 : Int64)), (.long ((((p1.toInt64) * ((p1 - (1 : Int32)).toInt64)) / (2 : Int64)) + (p1.toInt64)))])) _
          refine XS.ladd X122.here hx rfl (hb hby d1_50) rfl ?_
          show Steps p.tables e below (T122.setTop (mkF m 51 #[.val (.ref r0), .val (.int p1), .val (.long (((p1.toInt64) * ((p1 - (1 : Int32)).toInt64)) / (2 : Int64))), .second] [(.long (((((p1.toInt64) * ((p1 - (1 : Int32)).toInt64)) / (2 : Int64)) + (p1.toInt64)) + (0 : Int64)))])) _
          exact retOut X122 hx (t := .long) (i := .lreturn) Bd.returns rfl (Or.inr (Or.inl ⟨rfl, rfl, _, rfl⟩)) (hb hby d1_51) hr
        · show Q1 Z w_1 w_2 w_3 w_4 w_5 w_6 w_7 w_8 w_9 r0 p1 f_belowDiagonal_r0 f_diagonal_r0 f_aboveDiagonal_r0 h0 n0 _ T122.heap _
          rw [e122]
          exact ⟨by unfold sp1; rw [if_neg hc106, if_neg hc118, if_pos hc124], N0, rfl⟩
      · obtain ⟨fs, hr, hrun, hended, hW, hsame⟩ := X122.leave (v := some (.long (((((p1.toInt64) * ((p1 - (1 : Int32)).toInt64)) / (2 : Int64)) + (p1.toInt64)) + (((p1.toInt64) * ((p1 - (1 : Int32)).toInt64)) / (2 : Int64))))) (fun h => by rw [Bd.returns] at h; cases h)
        refine ⟨_, _, pre123 _ ?_, hrun, hended, _, _, rfl, ?_, ⟨_, rfl⟩, hW, hsame.mono (by decide) (by decide)⟩
        · show Steps p.tables e below (T122.setTop (mkF m 42 #[.val (.ref r0), .val (.int p1), .val (.long (((p1.toInt64) * ((p1 - (1 : Int32)).toInt64)) / (2 : Int64))), .second] [(.int f_aboveDiagonal_r0), (.long ((((p1.toInt64) * ((p1 - (1 : Int32)).toInt64)) / (2 : Int64)) + (p1.toInt64)))])) _
          refine XS.ifNo X122.here hx rfl (hb hby d1_42) rfl ((if0 _ _).trans (feq hc124).1) ?_
          show Steps p.tables e below (T122.setTop (mkF m 45 #[.val (.ref r0), .val (.int p1), .val (.long (((p1.toInt64) * ((p1 - (1 : Int32)).toInt64)) / (2 : Int64))), .second] [(.long ((((p1.toInt64) * ((p1 - (1 : Int32)).toInt64)) / (2 : Int64)) + (p1.toInt64)))])) _
          refine XS.lloadN X122.here hx rfl (hb hby d1_45) rfl ?_
          show Steps p.tables e below (T122.setTop (mkF m 46 #[.val (.ref r0), .val (.int p1), .val (.long (((p1.toInt64) * ((p1 - (1 : Int32)).toInt64)) / (2 : Int64))), .second] [(.long (((p1.toInt64) * ((p1 - (1 : Int32)).toInt64)) / (2 : Int64))), (.long ((((p1.toInt64) * ((p1 - (1 : Int32)).toInt64)) / (2 : Int64)) + (p1.toInt64)))])) _
          refine XS.goto X122.here hx rfl (pc0 := 46) (pc' := 50) rfl (hb hby d1_46) (by decide) (by decide) ?_
          show Steps p.tables e below (T122.setTop (mkF m 50 #[.val (.ref r0), .val (.int p1), .val (.long (((p1.toInt64) * ((p1 - (1 : Int32)).toInt64)) / (2 : Int64))), .second] [(.long (((p1.toInt64) * ((p1 - (1 : Int32)).toInt64)) / (2 : Int64))), (.long ((((p1.toInt64) * ((p1 - (1 : Int32)).toInt64)) / (2 : Int64)) + (p1.toInt64)))])) _
          refine XS.ladd X122.here hx rfl (hb hby d1_50) rfl ?_
          show Steps p.tables e below (T122.setTop (mkF m 51 #[.val (.ref r0), .val (.int p1), .val (.long (((p1.toInt64) * ((p1 - (1 : Int32)).toInt64)) / (2 : Int64))), .second] [(.long (((((p1.toInt64) * ((p1 - (1 : Int32)).toInt64)) / (2 : Int64)) + (p1.toInt64)) + (((p1.toInt64) * ((p1 - (1 : Int32)).toInt64)) / (2 : Int64))))])) _
          exact retOut X122 hx (t := .long) (i := .lreturn) Bd.returns rfl (Or.inr (Or.inl ⟨rfl, rfl, _, rfl⟩)) (hb hby d1_51) hr
        · show Q1 Z w_1 w_2 w_3 w_4 w_5 w_6 w_7 w_8 w_9 r0 p1 f_belowDiagonal_r0 f_diagonal_r0 f_aboveDiagonal_r0 h0 n0 _ T122.heap _
          rw [e122]
          exact ⟨by unfold sp1; rw [if_neg hc106, if_neg hc118, if_neg hc124], N0, rfl⟩
theorem pn_0 : plainName "com/example/onetree/onetree/EdgeWeightFormatCountPinLaw" = true := by first | (simp [plainName, overriddenIn]; done) | decide +kernel
theorem ef_0 (m : MethodId) (p0 : Int32) (p1 : Int32) : entryFrame m #[(.int p0), (.int p1)] maxLocals = mkF m 0 #[.val (.int p0), .val (.int p1), .unset, .unset, .unset, .unset, .unset, .unset, .unset] [] := by first | (simp [entryFrame, mkF, argsToLocals, Value.category, maxLocals]; done) | rfl
def sp0 (p0 : Int32) (p1 : Int32) : Int32 := (if ((p0 &&& (2147483647 : Int32)) % (9 : Int32)) = (0 : Int32) then (if (lcmpW ((((((p1 &&& (2147483647 : Int32)).toInt64) * (((p1 &&& (2147483647 : Int32)) - (1 : Int32)).toInt64)) / (2 : Int64)) + ((p1 &&& (2147483647 : Int32)).toInt64)) + ((((p1 &&& (2147483647 : Int32)).toInt64) * (((p1 &&& (2147483647 : Int32)) - (1 : Int32)).toInt64)) / (2 : Int64))) (((p1 &&& (2147483647 : Int32)).toInt64) * ((p1 &&& (2147483647 : Int32)).toInt64))) = (0 : Int32) then (1 : Int32) else (0 : Int32)) else (if ((p0 &&& (2147483647 : Int32)) % (9 : Int32)) = (3 : Int32) then (if (lcmpW (((0 : Int64) + ((p1 &&& (2147483647 : Int32)).toInt64)) + ((((p1 &&& (2147483647 : Int32)).toInt64) * (((p1 &&& (2147483647 : Int32)) - (1 : Int32)).toInt64)) / (2 : Int64))) ((((p1 &&& (2147483647 : Int32)).toInt64) * (((p1 &&& (2147483647 : Int32)).toInt64) + (1 : Int64))) / (2 : Int64))) = (0 : Int32) then (1 : Int32) else (0 : Int32)) else (if ((p0 &&& (2147483647 : Int32)) % (9 : Int32)) = (4 : Int32) then (if (lcmpW ((((((p1 &&& (2147483647 : Int32)).toInt64) * (((p1 &&& (2147483647 : Int32)) - (1 : Int32)).toInt64)) / (2 : Int64)) + ((p1 &&& (2147483647 : Int32)).toInt64)) + (0 : Int64)) ((((p1 &&& (2147483647 : Int32)).toInt64) * (((p1 &&& (2147483647 : Int32)).toInt64) + (1 : Int64))) / (2 : Int64))) = (0 : Int32) then (1 : Int32) else (0 : Int32)) else (if ((p0 &&& (2147483647 : Int32)) % (9 : Int32)) = (7 : Int32) then (if (lcmpW ((((((p1 &&& (2147483647 : Int32)).toInt64) * (((p1 &&& (2147483647 : Int32)) - (1 : Int32)).toInt64)) / (2 : Int64)) + ((p1 &&& (2147483647 : Int32)).toInt64)) + (0 : Int64)) ((((p1 &&& (2147483647 : Int32)).toInt64) * (((p1 &&& (2147483647 : Int32)).toInt64) + (1 : Int64))) / (2 : Int64))) = (0 : Int32) then (1 : Int32) else (0 : Int32)) else (if ((p0 &&& (2147483647 : Int32)) % (9 : Int32)) = (8 : Int32) then (if (lcmpW (((0 : Int64) + ((p1 &&& (2147483647 : Int32)).toInt64)) + ((((p1 &&& (2147483647 : Int32)).toInt64) * (((p1 &&& (2147483647 : Int32)) - (1 : Int32)).toInt64)) / (2 : Int64))) ((((p1 &&& (2147483647 : Int32)).toInt64) * (((p1 &&& (2147483647 : Int32)).toInt64) + (1 : Int64))) / (2 : Int64))) = (0 : Int32) then (1 : Int32) else (0 : Int32)) else (if ((p0 &&& (2147483647 : Int32)) % (9 : Int32)) = (1 : Int32) then (if (lcmpW (((0 : Int64) + ((0 : Int32).toInt64)) + ((((p1 &&& (2147483647 : Int32)).toInt64) * (((p1 &&& (2147483647 : Int32)) - (1 : Int32)).toInt64)) / (2 : Int64))) ((((p1 &&& (2147483647 : Int32)).toInt64) * (((p1 &&& (2147483647 : Int32)).toInt64) - (1 : Int64))) / (2 : Int64))) = (0 : Int32) then (1 : Int32) else (0 : Int32)) else (if ((p0 &&& (2147483647 : Int32)) % (9 : Int32)) = (2 : Int32) then (if (lcmpW ((((((p1 &&& (2147483647 : Int32)).toInt64) * (((p1 &&& (2147483647 : Int32)) - (1 : Int32)).toInt64)) / (2 : Int64)) + ((0 : Int32).toInt64)) + (0 : Int64)) ((((p1 &&& (2147483647 : Int32)).toInt64) * (((p1 &&& (2147483647 : Int32)).toInt64) - (1 : Int64))) / (2 : Int64))) = (0 : Int32) then (1 : Int32) else (0 : Int32)) else (if ((p0 &&& (2147483647 : Int32)) % (9 : Int32)) = (5 : Int32) then (if (lcmpW ((((((p1 &&& (2147483647 : Int32)).toInt64) * (((p1 &&& (2147483647 : Int32)) - (1 : Int32)).toInt64)) / (2 : Int64)) + ((0 : Int32).toInt64)) + (0 : Int64)) ((((p1 &&& (2147483647 : Int32)).toInt64) * (((p1 &&& (2147483647 : Int32)).toInt64) - (1 : Int64))) / (2 : Int64))) = (0 : Int32) then (1 : Int32) else (0 : Int32)) else (if ((p0 &&& (2147483647 : Int32)) % (9 : Int32)) = (6 : Int32) then (if (lcmpW (((0 : Int64) + ((0 : Int32).toInt64)) + ((((p1 &&& (2147483647 : Int32)).toInt64) * (((p1 &&& (2147483647 : Int32)) - (1 : Int32)).toInt64)) / (2 : Int64))) ((((p1 &&& (2147483647 : Int32)).toInt64) * (((p1 &&& (2147483647 : Int32)).toInt64) - (1 : Int64))) / (2 : Int64))) = (0 : Int32) then (1 : Int32) else (0 : Int32)) else (1 : Int32))))))))))
def Q0 (Z : State) (w_1 : Addr) (w_2 : Addr) (w_3 : Addr) (w_4 : Addr) (w_5 : Addr) (w_6 : Addr) (w_7 : Addr) (w_8 : Addr) (w_9 : Addr) (p0 : Int32) (p1 : Int32) (h0 : Heap) (n0 : Nat) (v : Option Value) (h : Heap) (L : List Loc) : Prop := v = some (.int (sp0 p0 p1)) ∧ Fr n0 L ∧ True
set_option maxRecDepth 65536 in
set_option maxHeartbeats 40000000 in
theorem rm0 (l : Launch) (Z : State) (a0 : Array Value) (hw : ∀ d ∈ tables_1, d.before a0 Z = true) (ws : List Jvm.Cond) (w_1 : Addr) (w_2 : Addr) (w_3 : Addr) (w_4 : Addr) (w_5 : Addr) (w_6 : Addr) (w_7 : Addr) (w_8 : Addr) (w_9 : Addr) (hS : StF Z w_1 w_2 w_3 w_4 w_5 w_6 w_7 w_8 w_9) (p0 : Int32) (p1 : Int32) (h0 : Heap) (n0 : Nat) (O0 : Old Z n0 h0) :
    MetFree l x (head1 (Jvm.Cond.code x code maxLocals ret :: ws) room_1) (fun a U => a = #[(.int p0), (.int p1)] ∧ Z.Warmed39 U.vm ∧ U.heap = h0) (fun _ _ _ _ _ => True) (fun _ U o U' => ∃ v L, o = .returned v ∧ Q0 Z w_1 w_2 w_3 w_4 w_5 w_6 w_7 w_8 w_9 p0 p1 h0 n0 v U'.heap L ∧ FrameEnd U o U' L room_1.cells room_1.slots) := by
  refine MetFree.of_bodySF (plainFor_of_name pn_0) hisR ?_
  intro p e s m args below meth c s₁ Bd hml0 hP hK
  obtain ⟨rfl, hZ, hh⟩ := hP
  have hx := Bd.exec
  have hby := Bd.bytes
  have hml : c.maxLocals = 9 := hml0
  have hown : s.vm.findClass "com/example/onetree/onetree/EdgeWeightFormatCountPinLaw" = some m.cls := findClass_of_methodNamed Bd.named
  have hnm := (name_of_methodNamed Bd.named Bd.method).1
  have X0 : Stand p l e room_1 s m #[(.int p0), (.int p1)] below meth c s₁ [] 0 0 := Stand.of_body Bd
  have e0 : s₁.heap = h0 := by rw [← hh, Bd.state]; rfl
  have N0 := Fr.nil n0
  have hS0 := hS
  obtain ⟨S_1, E_1, S_2, E_2, S_3, E_3, S_4, E_4, S_5, E_5, S_6, E_6, S_7, E_7, S_8, E_8, S_9, E_9, F_1_belowDiagonal, F_1_diagonal, F_1_aboveDiagonal, F_6_belowDiagonal, F_6_diagonal, F_6_aboveDiagonal, F_5_belowDiagonal, F_5_diagonal, F_5_aboveDiagonal, F_2_belowDiagonal, F_2_diagonal, F_2_aboveDiagonal, F_7_belowDiagonal, F_7_diagonal, F_7_aboveDiagonal, F_9_belowDiagonal, F_9_diagonal, F_9_aboveDiagonal, F_4_belowDiagonal, F_4_diagonal, F_4_aboveDiagonal, F_3_belowDiagonal, F_3_diagonal, F_3_aboveDiagonal, F_8_belowDiagonal, F_8_diagonal, F_8_aboveDiagonal⟩ := hS
  have pre0 : ∀ t, Steps p.tables e below (s₁.setTop (mkF m 0 #[.val (.int p0), .val (.int p1), .unset, .unset, .unset, .unset, .unset, .unset, .unset] [])) t → Steps p.tables e below (s₁.setTop (entryFrame m #[(.int p0), (.int p1)] maxLocals)) t := fun t k => castTop (ef_0 m p0 p1) k
  obtain ⟨T71, h71, k71, X71, e71, E71, A71, OV71, st71⟩ := newR X0 hx hZ hown (hw _ (tk 0 rfl)) (hw _ (tk 1 rfl)) e0 (g := (mkF m 2 #[.val (.int p0), .val (.int p1), .unset, .unset, .unset, .unset, .unset, .unset, .unset] [(.int (9 : Int32))])) rfl (hb hby at_2) rfl (by decide) (cap := 9) (by decide) (by decide) (by decide) (by decide)
  obtain ⟨b71, g71⟩ : ∃ z, z = h0.size := ⟨_, rfl⟩
  rw [← g71] at A71 st71
  have g_b71 : n0 ≤ b71 := Nat.le_trans (own_old O0) (Nat.le_of_eq g71.symm)
  have O71 : Old Z n0 h71 := O0.ext E71
  have V_b71 : Arv Z h71 b71 k71 (.object "com/example/onetree/onetree/EdgeWeightFormat") (9 : Int32) [.null, .null, .null, .null, .null, .null, .null, .null, .null] .null := (Arv.new A71 (by decide)).pad (pad_rep [] .null 9)
  obtain ⟨T72, X72, e72, st72⟩ := getS2 X71 hx hZ hown (host := "") (Or.inl (hw _ (tk 2 rfl))) Via.refl e71 (S_1.ext O71.2) (g := (mkF m 7 #[.val (.int p0), .val (.int p1), .unset, .unset, .unset, .unset, .unset, .unset, .unset] [(.int (0 : Int32)), (.ref b71), (.ref b71)])) rfl (hb hby at_7)
  obtain ⟨cl73, Ar73, qa73, Sa73, Ma73, Ha73, Ga73⟩ := id V_b71
  have hin73 : ¬ ((0 : Int32) < 0 ∨ cl73.slots.size ≤ ((0 : Int32)).toNatClampNeg) := by exact inb_of Sa73 ⟨by decide, by decide⟩
  obtain ⟨T74, h74, X74, e74, W74, st74⟩ := stR X72 hx hZ e72 Ar73 (j := (0 : Int32)) hin73 rfl (Sto.ofV Ar73 qa73 OV71 (Ins.self (E_1.ext O71.2))) (g := (mkF m 10 #[.val (.int p0), .val (.int p1), .unset, .unset, .unset, .unset, .unset, .unset, .unset] [(.ref w_1), (.int (0 : Int32)), (.ref b71), (.ref b71)])) rfl rfl (hb hby at_10)
  have V_b71_74 : Arv Z h74 b71 k71 (.object "com/example/onetree/onetree/EdgeWeightFormat") (9 : Int32) [(.ref w_1), .null, .null, .null, .null, .null, .null, .null, .null] .null := Arv.set Ar73 qa73 Sa73 Ma73 Ha73 Ga73 rfl W74 0 rfl (Nat.le_of_ble_eq_true rfl)
  have O74 : Old Z n0 h74 := O71.wr W74 g_b71
  have N74 := Fr.snoc X74 N0 g_b71
  obtain ⟨T75, X75, e75, st75⟩ := getS2 X74 hx hZ hown (host := "") (Or.inl (hw _ (tk 6 rfl))) Via.refl e74 (S_2.ext O74.2) (g := (mkF m 13 #[.val (.int p0), .val (.int p1), .unset, .unset, .unset, .unset, .unset, .unset, .unset] [(.int (1 : Int32)), (.ref b71), (.ref b71)])) rfl (hb hby at_13)
  obtain ⟨cl76, Ar76, qa76, Sa76, Ma76, Ha76, Ga76⟩ := id V_b71_74
  have hin76 : ¬ ((1 : Int32) < 0 ∨ cl76.slots.size ≤ ((1 : Int32)).toNatClampNeg) := by exact inb_of Sa76 ⟨by decide, by decide⟩
  obtain ⟨T77, h77, X77, e77, W77, st77⟩ := stR X75 hx hZ e75 Ar76 (j := (1 : Int32)) hin76 rfl (Sto.ofV Ar76 qa76 OV71 (Ins.self (E_2.ext O74.2))) (g := (mkF m 16 #[.val (.int p0), .val (.int p1), .unset, .unset, .unset, .unset, .unset, .unset, .unset] [(.ref w_2), (.int (1 : Int32)), (.ref b71), (.ref b71)])) rfl rfl (hb hby at_16)
  have V_b71_77 : Arv Z h77 b71 k71 (.object "com/example/onetree/onetree/EdgeWeightFormat") (9 : Int32) [(.ref w_1), (.ref w_2), .null, .null, .null, .null, .null, .null, .null] .null := Arv.set Ar76 qa76 Sa76 Ma76 Ha76 Ga76 rfl W77 1 rfl (Nat.le_of_ble_eq_true rfl)
  have O77 : Old Z n0 h77 := O74.wr W77 g_b71
  have N77 := Fr.snoc X77 N74 g_b71
  obtain ⟨T78, X78, e78, st78⟩ := getS2 X77 hx hZ hown (host := "") (Or.inl (hw _ (tk 8 rfl))) Via.refl e77 (S_3.ext O77.2) (g := (mkF m 19 #[.val (.int p0), .val (.int p1), .unset, .unset, .unset, .unset, .unset, .unset, .unset] [(.int (2 : Int32)), (.ref b71), (.ref b71)])) rfl (hb hby at_19)
  obtain ⟨cl79, Ar79, qa79, Sa79, Ma79, Ha79, Ga79⟩ := id V_b71_77
  have hin79 : ¬ ((2 : Int32) < 0 ∨ cl79.slots.size ≤ ((2 : Int32)).toNatClampNeg) := by exact inb_of Sa79 ⟨by decide, by decide⟩
  obtain ⟨T80, h80, X80, e80, W80, st80⟩ := stR X78 hx hZ e78 Ar79 (j := (2 : Int32)) hin79 rfl (Sto.ofV Ar79 qa79 OV71 (Ins.self (E_3.ext O77.2))) (g := (mkF m 22 #[.val (.int p0), .val (.int p1), .unset, .unset, .unset, .unset, .unset, .unset, .unset] [(.ref w_3), (.int (2 : Int32)), (.ref b71), (.ref b71)])) rfl rfl (hb hby at_22)
  have V_b71_80 : Arv Z h80 b71 k71 (.object "com/example/onetree/onetree/EdgeWeightFormat") (9 : Int32) [(.ref w_1), (.ref w_2), (.ref w_3), .null, .null, .null, .null, .null, .null] .null := Arv.set Ar79 qa79 Sa79 Ma79 Ha79 Ga79 rfl W80 2 rfl (Nat.le_of_ble_eq_true rfl)
  have O80 : Old Z n0 h80 := O77.wr W80 g_b71
  have N80 := Fr.snoc X80 N77 g_b71
  obtain ⟨T81, X81, e81, st81⟩ := getS2 X80 hx hZ hown (host := "") (Or.inl (hw _ (tk 10 rfl))) Via.refl e80 (S_4.ext O80.2) (g := (mkF m 25 #[.val (.int p0), .val (.int p1), .unset, .unset, .unset, .unset, .unset, .unset, .unset] [(.int (3 : Int32)), (.ref b71), (.ref b71)])) rfl (hb hby at_25)
  obtain ⟨cl82, Ar82, qa82, Sa82, Ma82, Ha82, Ga82⟩ := id V_b71_80
  have hin82 : ¬ ((3 : Int32) < 0 ∨ cl82.slots.size ≤ ((3 : Int32)).toNatClampNeg) := by exact inb_of Sa82 ⟨by decide, by decide⟩
  obtain ⟨T83, h83, X83, e83, W83, st83⟩ := stR X81 hx hZ e81 Ar82 (j := (3 : Int32)) hin82 rfl (Sto.ofV Ar82 qa82 OV71 (Ins.self (E_4.ext O80.2))) (g := (mkF m 28 #[.val (.int p0), .val (.int p1), .unset, .unset, .unset, .unset, .unset, .unset, .unset] [(.ref w_4), (.int (3 : Int32)), (.ref b71), (.ref b71)])) rfl rfl (hb hby at_28)
  have V_b71_83 : Arv Z h83 b71 k71 (.object "com/example/onetree/onetree/EdgeWeightFormat") (9 : Int32) [(.ref w_1), (.ref w_2), (.ref w_3), (.ref w_4), .null, .null, .null, .null, .null] .null := Arv.set Ar82 qa82 Sa82 Ma82 Ha82 Ga82 rfl W83 3 rfl (Nat.le_of_ble_eq_true rfl)
  have O83 : Old Z n0 h83 := O80.wr W83 g_b71
  have N83 := Fr.snoc X83 N80 g_b71
  obtain ⟨T84, X84, e84, st84⟩ := getS2 X83 hx hZ hown (host := "") (Or.inl (hw _ (tk 12 rfl))) Via.refl e83 (S_5.ext O83.2) (g := (mkF m 31 #[.val (.int p0), .val (.int p1), .unset, .unset, .unset, .unset, .unset, .unset, .unset] [(.int (4 : Int32)), (.ref b71), (.ref b71)])) rfl (hb hby at_31)
  obtain ⟨cl85, Ar85, qa85, Sa85, Ma85, Ha85, Ga85⟩ := id V_b71_83
  have hin85 : ¬ ((4 : Int32) < 0 ∨ cl85.slots.size ≤ ((4 : Int32)).toNatClampNeg) := by exact inb_of Sa85 ⟨by decide, by decide⟩
  obtain ⟨T86, h86, X86, e86, W86, st86⟩ := stR X84 hx hZ e84 Ar85 (j := (4 : Int32)) hin85 rfl (Sto.ofV Ar85 qa85 OV71 (Ins.self (E_5.ext O83.2))) (g := (mkF m 34 #[.val (.int p0), .val (.int p1), .unset, .unset, .unset, .unset, .unset, .unset, .unset] [(.ref w_5), (.int (4 : Int32)), (.ref b71), (.ref b71)])) rfl rfl (hb hby at_34)
  have V_b71_86 : Arv Z h86 b71 k71 (.object "com/example/onetree/onetree/EdgeWeightFormat") (9 : Int32) [(.ref w_1), (.ref w_2), (.ref w_3), (.ref w_4), (.ref w_5), .null, .null, .null, .null] .null := Arv.set Ar85 qa85 Sa85 Ma85 Ha85 Ga85 rfl W86 4 rfl (Nat.le_of_ble_eq_true rfl)
  have O86 : Old Z n0 h86 := O83.wr W86 g_b71
  have N86 := Fr.snoc X86 N83 g_b71
  obtain ⟨T87, X87, e87, st87⟩ := getS2 X86 hx hZ hown (host := "") (Or.inl (hw _ (tk 14 rfl))) Via.refl e86 (S_6.ext O86.2) (g := (mkF m 37 #[.val (.int p0), .val (.int p1), .unset, .unset, .unset, .unset, .unset, .unset, .unset] [(.int (5 : Int32)), (.ref b71), (.ref b71)])) rfl (hb hby at_37)
  obtain ⟨cl88, Ar88, qa88, Sa88, Ma88, Ha88, Ga88⟩ := id V_b71_86
  have hin88 : ¬ ((5 : Int32) < 0 ∨ cl88.slots.size ≤ ((5 : Int32)).toNatClampNeg) := by exact inb_of Sa88 ⟨by decide, by decide⟩
  obtain ⟨T89, h89, X89, e89, W89, st89⟩ := stR X87 hx hZ e87 Ar88 (j := (5 : Int32)) hin88 rfl (Sto.ofV Ar88 qa88 OV71 (Ins.self (E_6.ext O86.2))) (g := (mkF m 40 #[.val (.int p0), .val (.int p1), .unset, .unset, .unset, .unset, .unset, .unset, .unset] [(.ref w_6), (.int (5 : Int32)), (.ref b71), (.ref b71)])) rfl rfl (hb hby at_40)
  have V_b71_89 : Arv Z h89 b71 k71 (.object "com/example/onetree/onetree/EdgeWeightFormat") (9 : Int32) [(.ref w_1), (.ref w_2), (.ref w_3), (.ref w_4), (.ref w_5), (.ref w_6), .null, .null, .null] .null := Arv.set Ar88 qa88 Sa88 Ma88 Ha88 Ga88 rfl W89 5 rfl (Nat.le_of_ble_eq_true rfl)
  have O89 : Old Z n0 h89 := O86.wr W89 g_b71
  have N89 := Fr.snoc X89 N86 g_b71
  obtain ⟨T90, X90, e90, st90⟩ := getS2 X89 hx hZ hown (host := "") (Or.inl (hw _ (tk 16 rfl))) Via.refl e89 (S_7.ext O89.2) (g := (mkF m 44 #[.val (.int p0), .val (.int p1), .unset, .unset, .unset, .unset, .unset, .unset, .unset] [(.int (6 : Int32)), (.ref b71), (.ref b71)])) rfl (hb hby at_44)
  obtain ⟨cl91, Ar91, qa91, Sa91, Ma91, Ha91, Ga91⟩ := id V_b71_89
  have hin91 : ¬ ((6 : Int32) < 0 ∨ cl91.slots.size ≤ ((6 : Int32)).toNatClampNeg) := by exact inb_of Sa91 ⟨by decide, by decide⟩
  obtain ⟨T92, h92, X92, e92, W92, st92⟩ := stR X90 hx hZ e90 Ar91 (j := (6 : Int32)) hin91 rfl (Sto.ofV Ar91 qa91 OV71 (Ins.self (E_7.ext O89.2))) (g := (mkF m 47 #[.val (.int p0), .val (.int p1), .unset, .unset, .unset, .unset, .unset, .unset, .unset] [(.ref w_7), (.int (6 : Int32)), (.ref b71), (.ref b71)])) rfl rfl (hb hby at_47)
  have V_b71_92 : Arv Z h92 b71 k71 (.object "com/example/onetree/onetree/EdgeWeightFormat") (9 : Int32) [(.ref w_1), (.ref w_2), (.ref w_3), (.ref w_4), (.ref w_5), (.ref w_6), (.ref w_7), .null, .null] .null := Arv.set Ar91 qa91 Sa91 Ma91 Ha91 Ga91 rfl W92 6 rfl (Nat.le_of_ble_eq_true rfl)
  have O92 : Old Z n0 h92 := O89.wr W92 g_b71
  have N92 := Fr.snoc X92 N89 g_b71
  obtain ⟨T93, X93, e93, st93⟩ := getS2 X92 hx hZ hown (host := "") (Or.inl (hw _ (tk 18 rfl))) Via.refl e92 (S_8.ext O92.2) (g := (mkF m 51 #[.val (.int p0), .val (.int p1), .unset, .unset, .unset, .unset, .unset, .unset, .unset] [(.int (7 : Int32)), (.ref b71), (.ref b71)])) rfl (hb hby at_51)
  obtain ⟨cl94, Ar94, qa94, Sa94, Ma94, Ha94, Ga94⟩ := id V_b71_92
  have hin94 : ¬ ((7 : Int32) < 0 ∨ cl94.slots.size ≤ ((7 : Int32)).toNatClampNeg) := by exact inb_of Sa94 ⟨by decide, by decide⟩
  obtain ⟨T95, h95, X95, e95, W95, st95⟩ := stR X93 hx hZ e93 Ar94 (j := (7 : Int32)) hin94 rfl (Sto.ofV Ar94 qa94 OV71 (Ins.self (E_8.ext O92.2))) (g := (mkF m 54 #[.val (.int p0), .val (.int p1), .unset, .unset, .unset, .unset, .unset, .unset, .unset] [(.ref w_8), (.int (7 : Int32)), (.ref b71), (.ref b71)])) rfl rfl (hb hby at_54)
  have V_b71_95 : Arv Z h95 b71 k71 (.object "com/example/onetree/onetree/EdgeWeightFormat") (9 : Int32) [(.ref w_1), (.ref w_2), (.ref w_3), (.ref w_4), (.ref w_5), (.ref w_6), (.ref w_7), (.ref w_8), .null] .null := Arv.set Ar94 qa94 Sa94 Ma94 Ha94 Ga94 rfl W95 7 rfl (Nat.le_of_ble_eq_true rfl)
  have O95 : Old Z n0 h95 := O92.wr W95 g_b71
  have N95 := Fr.snoc X95 N92 g_b71
  obtain ⟨T96, X96, e96, st96⟩ := getS2 X95 hx hZ hown (host := "") (Or.inl (hw _ (tk 20 rfl))) Via.refl e95 (S_9.ext O95.2) (g := (mkF m 58 #[.val (.int p0), .val (.int p1), .unset, .unset, .unset, .unset, .unset, .unset, .unset] [(.int (8 : Int32)), (.ref b71), (.ref b71)])) rfl (hb hby at_58)
  obtain ⟨cl97, Ar97, qa97, Sa97, Ma97, Ha97, Ga97⟩ := id V_b71_95
  have hin97 : ¬ ((8 : Int32) < 0 ∨ cl97.slots.size ≤ ((8 : Int32)).toNatClampNeg) := by exact inb_of Sa97 ⟨by decide, by decide⟩
  obtain ⟨T98, h98, X98, e98, W98, st98⟩ := stR X96 hx hZ e96 Ar97 (j := (8 : Int32)) hin97 rfl (Sto.ofV Ar97 qa97 OV71 (Ins.self (E_9.ext O95.2))) (g := (mkF m 61 #[.val (.int p0), .val (.int p1), .unset, .unset, .unset, .unset, .unset, .unset, .unset] [(.ref w_9), (.int (8 : Int32)), (.ref b71), (.ref b71)])) rfl rfl (hb hby at_61)
  have V_b71_98 : Arv Z h98 b71 k71 (.object "com/example/onetree/onetree/EdgeWeightFormat") (9 : Int32) [(.ref w_1), (.ref w_2), (.ref w_3), (.ref w_4), (.ref w_5), (.ref w_6), (.ref w_7), (.ref w_8), (.ref w_9)] .null := Arv.set Ar97 qa97 Sa97 Ma97 Ha97 Ga97 rfl W98 8 rfl (Nat.le_of_ble_eq_true rfl)
  have O98 : Old Z n0 h98 := O95.wr W98 g_b71
  have N98 := Fr.snoc X98 N95 g_b71
  have pre99 : ∀ t, Steps p.tables e below (T98.setTop (mkF m 83 #[.val (.int p0), .val (.int p1), .val (.ref b71), .val (.int ((p0 &&& (2147483647 : Int32)) % (9 : Int32))), .val (.int (p1 &&& (2147483647 : Int32))), .val (.long ((p1 &&& (2147483647 : Int32)).toInt64)), .second, .unset, .unset] [(.int ((p0 &&& (2147483647 : Int32)) % (9 : Int32)))])) t → Steps p.tables e below (s₁.setTop (entryFrame m #[(.int p0), (.int p1)] maxLocals)) t := fun t kt => by
    refine pre0 t ?_
    show Steps p.tables e below (s₁.setTop (mkF m 0 #[.val (.int p0), .val (.int p1), .unset, .unset, .unset, .unset, .unset, .unset, .unset] [])) _
    refine XS.bipush X0.here hx rfl (hb hby at_0) ?_
    show Steps p.tables e below (s₁.setTop (mkF m 2 #[.val (.int p0), .val (.int p1), .unset, .unset, .unset, .unset, .unset, .unset, .unset] [(.int (9 : Int32))])) _
    refine st71 _ ?_
    show Steps p.tables e below (T71.setTop (mkF m 5 #[.val (.int p0), .val (.int p1), .unset, .unset, .unset, .unset, .unset, .unset, .unset] [(.ref b71)])) _
    refine XS.dup X71.here hx rfl (hb hby at_5) rfl rfl ?_
    show Steps p.tables e below (T71.setTop (mkF m 6 #[.val (.int p0), .val (.int p1), .unset, .unset, .unset, .unset, .unset, .unset, .unset] [(.ref b71), (.ref b71)])) _
    refine XS.iconst X71.here hx rfl (hb hby at_6) ?_
    show Steps p.tables e below (T71.setTop (mkF m 7 #[.val (.int p0), .val (.int p1), .unset, .unset, .unset, .unset, .unset, .unset, .unset] [(.int (0 : Int32)), (.ref b71), (.ref b71)])) _
    refine st72 _ ?_
    show Steps p.tables e below (T72.setTop (mkF m 10 #[.val (.int p0), .val (.int p1), .unset, .unset, .unset, .unset, .unset, .unset, .unset] [(.ref w_1), (.int (0 : Int32)), (.ref b71), (.ref b71)])) _
    refine st74 _ ?_
    show Steps p.tables e below (T74.setTop (mkF m 11 #[.val (.int p0), .val (.int p1), .unset, .unset, .unset, .unset, .unset, .unset, .unset] [(.ref b71)])) _
    refine XS.dup X74.here hx rfl (hb hby at_11) rfl rfl ?_
    show Steps p.tables e below (T74.setTop (mkF m 12 #[.val (.int p0), .val (.int p1), .unset, .unset, .unset, .unset, .unset, .unset, .unset] [(.ref b71), (.ref b71)])) _
    refine XS.iconst X74.here hx rfl (hb hby at_12) ?_
    show Steps p.tables e below (T74.setTop (mkF m 13 #[.val (.int p0), .val (.int p1), .unset, .unset, .unset, .unset, .unset, .unset, .unset] [(.int (1 : Int32)), (.ref b71), (.ref b71)])) _
    refine st75 _ ?_
    show Steps p.tables e below (T75.setTop (mkF m 16 #[.val (.int p0), .val (.int p1), .unset, .unset, .unset, .unset, .unset, .unset, .unset] [(.ref w_2), (.int (1 : Int32)), (.ref b71), (.ref b71)])) _
    refine st77 _ ?_
    show Steps p.tables e below (T77.setTop (mkF m 17 #[.val (.int p0), .val (.int p1), .unset, .unset, .unset, .unset, .unset, .unset, .unset] [(.ref b71)])) _
    refine XS.dup X77.here hx rfl (hb hby at_17) rfl rfl ?_
    show Steps p.tables e below (T77.setTop (mkF m 18 #[.val (.int p0), .val (.int p1), .unset, .unset, .unset, .unset, .unset, .unset, .unset] [(.ref b71), (.ref b71)])) _
    refine XS.iconst X77.here hx rfl (hb hby at_18) ?_
    show Steps p.tables e below (T77.setTop (mkF m 19 #[.val (.int p0), .val (.int p1), .unset, .unset, .unset, .unset, .unset, .unset, .unset] [(.int (2 : Int32)), (.ref b71), (.ref b71)])) _
    refine st78 _ ?_
    show Steps p.tables e below (T78.setTop (mkF m 22 #[.val (.int p0), .val (.int p1), .unset, .unset, .unset, .unset, .unset, .unset, .unset] [(.ref w_3), (.int (2 : Int32)), (.ref b71), (.ref b71)])) _
    refine st80 _ ?_
    show Steps p.tables e below (T80.setTop (mkF m 23 #[.val (.int p0), .val (.int p1), .unset, .unset, .unset, .unset, .unset, .unset, .unset] [(.ref b71)])) _
    refine XS.dup X80.here hx rfl (hb hby at_23) rfl rfl ?_
    show Steps p.tables e below (T80.setTop (mkF m 24 #[.val (.int p0), .val (.int p1), .unset, .unset, .unset, .unset, .unset, .unset, .unset] [(.ref b71), (.ref b71)])) _
    refine XS.iconst X80.here hx rfl (hb hby at_24) ?_
    show Steps p.tables e below (T80.setTop (mkF m 25 #[.val (.int p0), .val (.int p1), .unset, .unset, .unset, .unset, .unset, .unset, .unset] [(.int (3 : Int32)), (.ref b71), (.ref b71)])) _
    refine st81 _ ?_
    show Steps p.tables e below (T81.setTop (mkF m 28 #[.val (.int p0), .val (.int p1), .unset, .unset, .unset, .unset, .unset, .unset, .unset] [(.ref w_4), (.int (3 : Int32)), (.ref b71), (.ref b71)])) _
    refine st83 _ ?_
    show Steps p.tables e below (T83.setTop (mkF m 29 #[.val (.int p0), .val (.int p1), .unset, .unset, .unset, .unset, .unset, .unset, .unset] [(.ref b71)])) _
    refine XS.dup X83.here hx rfl (hb hby at_29) rfl rfl ?_
    show Steps p.tables e below (T83.setTop (mkF m 30 #[.val (.int p0), .val (.int p1), .unset, .unset, .unset, .unset, .unset, .unset, .unset] [(.ref b71), (.ref b71)])) _
    refine XS.iconst X83.here hx rfl (hb hby at_30) ?_
    show Steps p.tables e below (T83.setTop (mkF m 31 #[.val (.int p0), .val (.int p1), .unset, .unset, .unset, .unset, .unset, .unset, .unset] [(.int (4 : Int32)), (.ref b71), (.ref b71)])) _
    refine st84 _ ?_
    show Steps p.tables e below (T84.setTop (mkF m 34 #[.val (.int p0), .val (.int p1), .unset, .unset, .unset, .unset, .unset, .unset, .unset] [(.ref w_5), (.int (4 : Int32)), (.ref b71), (.ref b71)])) _
    refine st86 _ ?_
    show Steps p.tables e below (T86.setTop (mkF m 35 #[.val (.int p0), .val (.int p1), .unset, .unset, .unset, .unset, .unset, .unset, .unset] [(.ref b71)])) _
    refine XS.dup X86.here hx rfl (hb hby at_35) rfl rfl ?_
    show Steps p.tables e below (T86.setTop (mkF m 36 #[.val (.int p0), .val (.int p1), .unset, .unset, .unset, .unset, .unset, .unset, .unset] [(.ref b71), (.ref b71)])) _
    refine XS.iconst X86.here hx rfl (hb hby at_36) ?_
    show Steps p.tables e below (T86.setTop (mkF m 37 #[.val (.int p0), .val (.int p1), .unset, .unset, .unset, .unset, .unset, .unset, .unset] [(.int (5 : Int32)), (.ref b71), (.ref b71)])) _
    refine st87 _ ?_
    show Steps p.tables e below (T87.setTop (mkF m 40 #[.val (.int p0), .val (.int p1), .unset, .unset, .unset, .unset, .unset, .unset, .unset] [(.ref w_6), (.int (5 : Int32)), (.ref b71), (.ref b71)])) _
    refine st89 _ ?_
    show Steps p.tables e below (T89.setTop (mkF m 41 #[.val (.int p0), .val (.int p1), .unset, .unset, .unset, .unset, .unset, .unset, .unset] [(.ref b71)])) _
    refine XS.dup X89.here hx rfl (hb hby at_41) rfl rfl ?_
    show Steps p.tables e below (T89.setTop (mkF m 42 #[.val (.int p0), .val (.int p1), .unset, .unset, .unset, .unset, .unset, .unset, .unset] [(.ref b71), (.ref b71)])) _
    refine XS.bipush X89.here hx rfl (hb hby at_42) ?_
    show Steps p.tables e below (T89.setTop (mkF m 44 #[.val (.int p0), .val (.int p1), .unset, .unset, .unset, .unset, .unset, .unset, .unset] [(.int (6 : Int32)), (.ref b71), (.ref b71)])) _
    refine st90 _ ?_
    show Steps p.tables e below (T90.setTop (mkF m 47 #[.val (.int p0), .val (.int p1), .unset, .unset, .unset, .unset, .unset, .unset, .unset] [(.ref w_7), (.int (6 : Int32)), (.ref b71), (.ref b71)])) _
    refine st92 _ ?_
    show Steps p.tables e below (T92.setTop (mkF m 48 #[.val (.int p0), .val (.int p1), .unset, .unset, .unset, .unset, .unset, .unset, .unset] [(.ref b71)])) _
    refine XS.dup X92.here hx rfl (hb hby at_48) rfl rfl ?_
    show Steps p.tables e below (T92.setTop (mkF m 49 #[.val (.int p0), .val (.int p1), .unset, .unset, .unset, .unset, .unset, .unset, .unset] [(.ref b71), (.ref b71)])) _
    refine XS.bipush X92.here hx rfl (hb hby at_49) ?_
    show Steps p.tables e below (T92.setTop (mkF m 51 #[.val (.int p0), .val (.int p1), .unset, .unset, .unset, .unset, .unset, .unset, .unset] [(.int (7 : Int32)), (.ref b71), (.ref b71)])) _
    refine st93 _ ?_
    show Steps p.tables e below (T93.setTop (mkF m 54 #[.val (.int p0), .val (.int p1), .unset, .unset, .unset, .unset, .unset, .unset, .unset] [(.ref w_8), (.int (7 : Int32)), (.ref b71), (.ref b71)])) _
    refine st95 _ ?_
    show Steps p.tables e below (T95.setTop (mkF m 55 #[.val (.int p0), .val (.int p1), .unset, .unset, .unset, .unset, .unset, .unset, .unset] [(.ref b71)])) _
    refine XS.dup X95.here hx rfl (hb hby at_55) rfl rfl ?_
    show Steps p.tables e below (T95.setTop (mkF m 56 #[.val (.int p0), .val (.int p1), .unset, .unset, .unset, .unset, .unset, .unset, .unset] [(.ref b71), (.ref b71)])) _
    refine XS.bipush X95.here hx rfl (hb hby at_56) ?_
    show Steps p.tables e below (T95.setTop (mkF m 58 #[.val (.int p0), .val (.int p1), .unset, .unset, .unset, .unset, .unset, .unset, .unset] [(.int (8 : Int32)), (.ref b71), (.ref b71)])) _
    refine st96 _ ?_
    show Steps p.tables e below (T96.setTop (mkF m 61 #[.val (.int p0), .val (.int p1), .unset, .unset, .unset, .unset, .unset, .unset, .unset] [(.ref w_9), (.int (8 : Int32)), (.ref b71), (.ref b71)])) _
    refine st98 _ ?_
    show Steps p.tables e below (T98.setTop (mkF m 62 #[.val (.int p0), .val (.int p1), .unset, .unset, .unset, .unset, .unset, .unset, .unset] [(.ref b71)])) _
    refine XS.astoreN X98.here hx rfl (hb hby at_62) rfl rfl (l' := #[.val (.int p0), .val (.int p1), .val (.ref b71), .unset, .unset, .unset, .unset, .unset, .unset]) rfl ?_
    show Steps p.tables e below (T98.setTop (mkF m 63 #[.val (.int p0), .val (.int p1), .val (.ref b71), .unset, .unset, .unset, .unset, .unset, .unset] [])) _
    refine XS.iloadN X98.here hx rfl (hb hby at_63) rfl ?_
    show Steps p.tables e below (T98.setTop (mkF m 64 #[.val (.int p0), .val (.int p1), .val (.ref b71), .unset, .unset, .unset, .unset, .unset, .unset] [(.int p0)])) _
    refine X98.ldcInt hx hown (mvT hZ (hw _ (tk 22 rfl))) (g := (mkF m 64 #[.val (.int p0), .val (.int p1), .val (.ref b71), .unset, .unset, .unset, .unset, .unset, .unset] [(.int p0)])) rfl (hb hby at_64) _ ?_
    show Steps p.tables e below (T98.setTop (mkF m 66 #[.val (.int p0), .val (.int p1), .val (.ref b71), .unset, .unset, .unset, .unset, .unset, .unset] [(.int (2147483647 : Int32)), (.int p0)])) _
    refine XS.iand X98.here hx rfl (hb hby at_66) rfl ?_
    show Steps p.tables e below (T98.setTop (mkF m 67 #[.val (.int p0), .val (.int p1), .val (.ref b71), .unset, .unset, .unset, .unset, .unset, .unset] [(.int (p0 &&& (2147483647 : Int32)))])) _
    refine XS.bipush X98.here hx rfl (hb hby at_67) ?_
    show Steps p.tables e below (T98.setTop (mkF m 69 #[.val (.int p0), .val (.int p1), .val (.ref b71), .unset, .unset, .unset, .unset, .unset, .unset] [(.int (9 : Int32)), (.int (p0 &&& (2147483647 : Int32)))])) _
    refine iremM X98 hx rfl (hb hby at_69) rfl (by decide : ¬ ((9 : Int32) = (0 : Int32))) ?_
    show Steps p.tables e below (T98.setTop (mkF m 70 #[.val (.int p0), .val (.int p1), .val (.ref b71), .unset, .unset, .unset, .unset, .unset, .unset] [(.int ((p0 &&& (2147483647 : Int32)) % (9 : Int32)))])) _
    refine XS.istoreN X98.here hx rfl (hb hby at_70) rfl (l' := #[.val (.int p0), .val (.int p1), .val (.ref b71), .val (.int ((p0 &&& (2147483647 : Int32)) % (9 : Int32))), .unset, .unset, .unset, .unset, .unset]) rfl ?_
    show Steps p.tables e below (T98.setTop (mkF m 71 #[.val (.int p0), .val (.int p1), .val (.ref b71), .val (.int ((p0 &&& (2147483647 : Int32)) % (9 : Int32))), .unset, .unset, .unset, .unset, .unset] [])) _
    refine XS.iloadN X98.here hx rfl (hb hby at_71) rfl ?_
    show Steps p.tables e below (T98.setTop (mkF m 72 #[.val (.int p0), .val (.int p1), .val (.ref b71), .val (.int ((p0 &&& (2147483647 : Int32)) % (9 : Int32))), .unset, .unset, .unset, .unset, .unset] [(.int p1)])) _
    refine X98.ldcInt hx hown (mvT hZ (hw _ (tk 22 rfl))) (g := (mkF m 72 #[.val (.int p0), .val (.int p1), .val (.ref b71), .val (.int ((p0 &&& (2147483647 : Int32)) % (9 : Int32))), .unset, .unset, .unset, .unset, .unset] [(.int p1)])) rfl (hb hby at_72) _ ?_
    show Steps p.tables e below (T98.setTop (mkF m 74 #[.val (.int p0), .val (.int p1), .val (.ref b71), .val (.int ((p0 &&& (2147483647 : Int32)) % (9 : Int32))), .unset, .unset, .unset, .unset, .unset] [(.int (2147483647 : Int32)), (.int p1)])) _
    refine XS.iand X98.here hx rfl (hb hby at_74) rfl ?_
    show Steps p.tables e below (T98.setTop (mkF m 75 #[.val (.int p0), .val (.int p1), .val (.ref b71), .val (.int ((p0 &&& (2147483647 : Int32)) % (9 : Int32))), .unset, .unset, .unset, .unset, .unset] [(.int (p1 &&& (2147483647 : Int32)))])) _
    refine XS.istore X98.here hx rfl (hb hby at_75) rfl (l' := #[.val (.int p0), .val (.int p1), .val (.ref b71), .val (.int ((p0 &&& (2147483647 : Int32)) % (9 : Int32))), .val (.int (p1 &&& (2147483647 : Int32))), .unset, .unset, .unset, .unset]) rfl ?_
    show Steps p.tables e below (T98.setTop (mkF m 77 #[.val (.int p0), .val (.int p1), .val (.ref b71), .val (.int ((p0 &&& (2147483647 : Int32)) % (9 : Int32))), .val (.int (p1 &&& (2147483647 : Int32))), .unset, .unset, .unset, .unset] [])) _
    refine XS.iload X98.here hx rfl (hb hby at_77) rfl ?_
    show Steps p.tables e below (T98.setTop (mkF m 79 #[.val (.int p0), .val (.int p1), .val (.ref b71), .val (.int ((p0 &&& (2147483647 : Int32)) % (9 : Int32))), .val (.int (p1 &&& (2147483647 : Int32))), .unset, .unset, .unset, .unset] [(.int (p1 &&& (2147483647 : Int32)))])) _
    refine XS.i2l X98.here hx rfl (hb hby at_79) rfl ?_
    show Steps p.tables e below (T98.setTop (mkF m 80 #[.val (.int p0), .val (.int p1), .val (.ref b71), .val (.int ((p0 &&& (2147483647 : Int32)) % (9 : Int32))), .val (.int (p1 &&& (2147483647 : Int32))), .unset, .unset, .unset, .unset] [(.long ((p1 &&& (2147483647 : Int32)).toInt64))])) _
    refine XS.lstore X98.here hx rfl (hb hby at_80) rfl (l' := #[.val (.int p0), .val (.int p1), .val (.ref b71), .val (.int ((p0 &&& (2147483647 : Int32)) % (9 : Int32))), .val (.int (p1 &&& (2147483647 : Int32))), .val (.long ((p1 &&& (2147483647 : Int32)).toInt64)), .second, .unset, .unset]) rfl ?_
    show Steps p.tables e below (T98.setTop (mkF m 82 #[.val (.int p0), .val (.int p1), .val (.ref b71), .val (.int ((p0 &&& (2147483647 : Int32)) % (9 : Int32))), .val (.int (p1 &&& (2147483647 : Int32))), .val (.long ((p1 &&& (2147483647 : Int32)).toInt64)), .second, .unset, .unset] [])) _
    refine XS.iloadN X98.here hx rfl (hb hby at_82) rfl ?_
    show Steps p.tables e below (T98.setTop (mkF m 83 #[.val (.int p0), .val (.int p1), .val (.ref b71), .val (.int ((p0 &&& (2147483647 : Int32)) % (9 : Int32))), .val (.int (p1 &&& (2147483647 : Int32))), .val (.long ((p1 &&& (2147483647 : Int32)).toInt64)), .second, .unset, .unset] [(.int ((p0 &&& (2147483647 : Int32)) % (9 : Int32)))])) _
    exact kt
  by_cases hc100 : ((p0 &&& (2147483647 : Int32)) % (9 : Int32)) = (0 : Int32)
  · have pre101 : ∀ t, Steps p.tables e below (T98.setTop (mkF m 149 #[.val (.int p0), .val (.int p1), .val (.ref b71), .val (.int ((p0 &&& (2147483647 : Int32)) % (9 : Int32))), .val (.int (p1 &&& (2147483647 : Int32))), .val (.long ((p1 &&& (2147483647 : Int32)).toInt64)), .second, .val (.long (((p1 &&& (2147483647 : Int32)).toInt64) * ((p1 &&& (2147483647 : Int32)).toInt64))), .second] [(.int ((p0 &&& (2147483647 : Int32)) % (9 : Int32))), (.ref b71)])) t → Steps p.tables e below (s₁.setTop (entryFrame m #[(.int p0), (.int p1)] maxLocals)) t := fun t kt => by
      refine pre99 t ?_
      show Steps p.tables e below (T98.setTop (mkF m 83 #[.val (.int p0), .val (.int p1), .val (.ref b71), .val (.int ((p0 &&& (2147483647 : Int32)) % (9 : Int32))), .val (.int (p1 &&& (2147483647 : Int32))), .val (.long ((p1 &&& (2147483647 : Int32)).toInt64)), .second, .unset, .unset] [(.int ((p0 &&& (2147483647 : Int32)) % (9 : Int32)))])) _
      refine XS.ifNo X98.here hx rfl (hb hby at_83) rfl ((if0 _ _).trans (teq hc100).2) ?_
      show Steps p.tables e below (T98.setTop (mkF m 86 #[.val (.int p0), .val (.int p1), .val (.ref b71), .val (.int ((p0 &&& (2147483647 : Int32)) % (9 : Int32))), .val (.int (p1 &&& (2147483647 : Int32))), .val (.long ((p1 &&& (2147483647 : Int32)).toInt64)), .second, .unset, .unset] [])) _
      refine XS.lload X98.here hx rfl (hb hby at_86) rfl ?_
      show Steps p.tables e below (T98.setTop (mkF m 88 #[.val (.int p0), .val (.int p1), .val (.ref b71), .val (.int ((p0 &&& (2147483647 : Int32)) % (9 : Int32))), .val (.int (p1 &&& (2147483647 : Int32))), .val (.long ((p1 &&& (2147483647 : Int32)).toInt64)), .second, .unset, .unset] [(.long ((p1 &&& (2147483647 : Int32)).toInt64))])) _
      refine XS.lload X98.here hx rfl (hb hby at_88) rfl ?_
      show Steps p.tables e below (T98.setTop (mkF m 90 #[.val (.int p0), .val (.int p1), .val (.ref b71), .val (.int ((p0 &&& (2147483647 : Int32)) % (9 : Int32))), .val (.int (p1 &&& (2147483647 : Int32))), .val (.long ((p1 &&& (2147483647 : Int32)).toInt64)), .second, .unset, .unset] [(.long ((p1 &&& (2147483647 : Int32)).toInt64)), (.long ((p1 &&& (2147483647 : Int32)).toInt64))])) _
      refine XS.lmul X98.here hx rfl (hb hby at_90) rfl ?_
      show Steps p.tables e below (T98.setTop (mkF m 91 #[.val (.int p0), .val (.int p1), .val (.ref b71), .val (.int ((p0 &&& (2147483647 : Int32)) % (9 : Int32))), .val (.int (p1 &&& (2147483647 : Int32))), .val (.long ((p1 &&& (2147483647 : Int32)).toInt64)), .second, .unset, .unset] [(.long (((p1 &&& (2147483647 : Int32)).toInt64) * ((p1 &&& (2147483647 : Int32)).toInt64)))])) _
      refine XS.lstore X98.here hx rfl (hb hby at_91) rfl (l' := #[.val (.int p0), .val (.int p1), .val (.ref b71), .val (.int ((p0 &&& (2147483647 : Int32)) % (9 : Int32))), .val (.int (p1 &&& (2147483647 : Int32))), .val (.long ((p1 &&& (2147483647 : Int32)).toInt64)), .second, .val (.long (((p1 &&& (2147483647 : Int32)).toInt64) * ((p1 &&& (2147483647 : Int32)).toInt64))), .second]) rfl ?_
      show Steps p.tables e below (T98.setTop (mkF m 93 #[.val (.int p0), .val (.int p1), .val (.ref b71), .val (.int ((p0 &&& (2147483647 : Int32)) % (9 : Int32))), .val (.int (p1 &&& (2147483647 : Int32))), .val (.long ((p1 &&& (2147483647 : Int32)).toInt64)), .second, .val (.long (((p1 &&& (2147483647 : Int32)).toInt64) * ((p1 &&& (2147483647 : Int32)).toInt64))), .second] [])) _
      refine XS.goto X98.here hx rfl (pc0 := 93) (pc' := 147) rfl (hb hby at_93) (by decide) (by decide) ?_
      show Steps p.tables e below (T98.setTop (mkF m 147 #[.val (.int p0), .val (.int p1), .val (.ref b71), .val (.int ((p0 &&& (2147483647 : Int32)) % (9 : Int32))), .val (.int (p1 &&& (2147483647 : Int32))), .val (.long ((p1 &&& (2147483647 : Int32)).toInt64)), .second, .val (.long (((p1 &&& (2147483647 : Int32)).toInt64) * ((p1 &&& (2147483647 : Int32)).toInt64))), .second] [])) _
      refine XS.aloadN X98.here hx rfl (hb hby at_147) rfl rfl ?_
      show Steps p.tables e below (T98.setTop (mkF m 148 #[.val (.int p0), .val (.int p1), .val (.ref b71), .val (.int ((p0 &&& (2147483647 : Int32)) % (9 : Int32))), .val (.int (p1 &&& (2147483647 : Int32))), .val (.long ((p1 &&& (2147483647 : Int32)).toInt64)), .second, .val (.long (((p1 &&& (2147483647 : Int32)).toInt64) * ((p1 &&& (2147483647 : Int32)).toInt64))), .second] [(.ref b71)])) _
      refine XS.iloadN X98.here hx rfl (hb hby at_148) rfl ?_
      show Steps p.tables e below (T98.setTop (mkF m 149 #[.val (.int p0), .val (.int p1), .val (.ref b71), .val (.int ((p0 &&& (2147483647 : Int32)) % (9 : Int32))), .val (.int (p1 &&& (2147483647 : Int32))), .val (.long ((p1 &&& (2147483647 : Int32)).toInt64)), .second, .val (.long (((p1 &&& (2147483647 : Int32)).toInt64) * ((p1 &&& (2147483647 : Int32)).toInt64))), .second] [(.int ((p0 &&& (2147483647 : Int32)) % (9 : Int32))), (.ref b71)])) _
      exact kt
    have pre102 : ∀ t, Steps p.tables e below (T98.setTop (mkF m 149 #[.val (.int p0), .val (.int p1), .val (.ref b71), .val (.int (0 : Int32)), .val (.int (p1 &&& (2147483647 : Int32))), .val (.long ((p1 &&& (2147483647 : Int32)).toInt64)), .second, .val (.long (((p1 &&& (2147483647 : Int32)).toInt64) * ((p1 &&& (2147483647 : Int32)).toInt64))), .second] [(.int (0 : Int32)), (.ref b71)])) t → Steps p.tables e below (s₁.setTop (entryFrame m #[(.int p0), (.int p1)] maxLocals)) t := fun t kt => pre101 t (by rw [(by rw [hc100] <;> decide : ((p0 &&& (2147483647 : Int32)) % (9 : Int32)) = (0 : Int32))]; exact kt)
    obtain ⟨cl103, Ar103, qa103, Sa103, Ma103, Ha103, Ga103⟩ := id V_b71_98
    have hin103 : ¬ ((0 : Int32) < 0 ∨ cl103.slots.size ≤ ((0 : Int32)).toNatClampNeg) := by  exact inb_of Sa103 ⟨by decide, by decide⟩
    have hat103 : cl103.slots[((0 : Int32)).toNatClampNeg]? = some (.ref w_1) := Has.at Ha103 hin103 (by rfl)
    obtain ⟨cq125, kq125, q125a, q125b, q125c⟩ := isOf hZ e98 (E_1.ext O98.2)
    obtain ⟨_, _, ⟨T125, L125, k125, n125⟩, -, X125, ⟨Lc125, hQ125, l125, y125, z125⟩, st125⟩ := X98.virtualBack hx (y := Y0) (z := Y0) hown (mvT hZ (hw _ (tk 23 rfl))) (mvT hZ (hw _ (tk 24 rfl))) (notFace_of_selects (args := #[]) (mvT hZ (hw _ (tk 26 rfl)))) (mvT hZ (hw _ (tk 26 rfl))) (mvT hZ (hw _ (tk 25 rfl))) (by decide) (backOf (W := 0) (rm1 l Z a0 hw [] w_1 w_2 w_3 w_4 w_5 w_6 w_7 w_8 w_9 hS0 w_1 (p1 &&& (2147483647 : Int32)) (1 : Int32) (1 : Int32) (1 : Int32) h98 n0 O98 (F_1_belowDiagonal.ext O98.2) (F_1_diagonal.ext O98.2) (F_1_aboveDiagonal.ext O98.2)) hZ (hw _ (tk 27 rfl)) (hw _ (tk 3 rfl)) (by decide) (by decide)) q125a q125c (g := (mkF m 152 #[.val (.int p0), .val (.int p1), .val (.ref b71), .val (.int (0 : Int32)), .val (.int (p1 &&& (2147483647 : Int32))), .val (.long ((p1 &&& (2147483647 : Int32)).toInt64)), .second, .val (.long (((p1 &&& (2147483647 : Int32)).toInt64) * ((p1 &&& (2147483647 : Int32)).toInt64))), .second] [(.int (p1 &&& (2147483647 : Int32))), (.ref w_1)])) rfl (by rw [hml]; rfl) (Steps.refl _) (argsL := [(.int (p1 &&& (2147483647 : Int32)))]) (rest := []) (lenOf pd_0 rfl) rfl (by show 2 * 0 + _ ≤ _; exact Nat.le_of_eq rfl) (hb hby at_152) (fun _ _ => ⟨rfl, e98, (by decide : 1 + 0 ≤ _), (by decide : 9 + 0 ≤ _)⟩)
    dsimp only [Pt.U, Pt.locs, Pt.cells, Pt.slots] at X125 l125 y125 z125 st125 hQ125
    subst l125 y125 z125
    obtain ⟨rv125, N125q, e125⟩ := hQ125
    rw [show sp1 (p1 &&& (2147483647 : Int32)) (1 : Int32) (1 : Int32) (1 : Int32) = ((((((p1 &&& (2147483647 : Int32)).toInt64) * (((p1 &&& (2147483647 : Int32)) - (1 : Int32)).toInt64)) / (2 : Int64)) + ((p1 &&& (2147483647 : Int32)).toInt64)) + ((((p1 &&& (2147483647 : Int32)).toInt64) * (((p1 &&& (2147483647 : Int32)) - (1 : Int32)).toInt64)) / (2 : Int64))) from by unfold sp1; rw [if_neg (by decide : ¬ ((1 : Int32) = (0 : Int32))), if_neg (by decide : ¬ ((1 : Int32) = (0 : Int32))), if_neg (by decide : ¬ ((1 : Int32) = (0 : Int32)))]] at rv125
    subst rv125
    have N125 := Fr.app N98 N125q
    have pre126 : ∀ t, Steps p.tables e below (T125.setTop (mkF m 158 #[.val (.int p0), .val (.int p1), .val (.ref b71), .val (.int (0 : Int32)), .val (.int (p1 &&& (2147483647 : Int32))), .val (.long ((p1 &&& (2147483647 : Int32)).toInt64)), .second, .val (.long (((p1 &&& (2147483647 : Int32)).toInt64) * ((p1 &&& (2147483647 : Int32)).toInt64))), .second] [(.int (lcmpW ((((((p1 &&& (2147483647 : Int32)).toInt64) * (((p1 &&& (2147483647 : Int32)) - (1 : Int32)).toInt64)) / (2 : Int64)) + ((p1 &&& (2147483647 : Int32)).toInt64)) + ((((p1 &&& (2147483647 : Int32)).toInt64) * (((p1 &&& (2147483647 : Int32)) - (1 : Int32)).toInt64)) / (2 : Int64))) (((p1 &&& (2147483647 : Int32)).toInt64) * ((p1 &&& (2147483647 : Int32)).toInt64))))])) t → Steps p.tables e below (s₁.setTop (entryFrame m #[(.int p0), (.int p1)] maxLocals)) t := fun t kt => by
      refine pre102 t ?_
      show Steps p.tables e below (T98.setTop (mkF m 149 #[.val (.int p0), .val (.int p1), .val (.ref b71), .val (.int (0 : Int32)), .val (.int (p1 &&& (2147483647 : Int32))), .val (.long ((p1 &&& (2147483647 : Int32)).toInt64)), .second, .val (.long (((p1 &&& (2147483647 : Int32)).toInt64) * ((p1 &&& (2147483647 : Int32)).toInt64))), .second] [(.int (0 : Int32)), (.ref b71)])) _
      refine X98.aaload hx (j := (0 : Int32)) (v := (.ref w_1)) (by rw [e98]; exact Ar103.1) (State.isArrayOf_alike hZ.alike Ar103.2.1) rfl Ar103.2.2 hin103 hat103 (g := (mkF m 149 #[.val (.int p0), .val (.int p1), .val (.ref b71), .val (.int (0 : Int32)), .val (.int (p1 &&& (2147483647 : Int32))), .val (.long ((p1 &&& (2147483647 : Int32)).toInt64)), .second, .val (.long (((p1 &&& (2147483647 : Int32)).toInt64) * ((p1 &&& (2147483647 : Int32)).toInt64))), .second] [(.int (0 : Int32)), (.ref b71)])) rfl rfl (hb hby at_149) _ ?_
      show Steps p.tables e below (T98.setTop (mkF m 150 #[.val (.int p0), .val (.int p1), .val (.ref b71), .val (.int (0 : Int32)), .val (.int (p1 &&& (2147483647 : Int32))), .val (.long ((p1 &&& (2147483647 : Int32)).toInt64)), .second, .val (.long (((p1 &&& (2147483647 : Int32)).toInt64) * ((p1 &&& (2147483647 : Int32)).toInt64))), .second] [(.ref w_1)])) _
      refine XS.iload X98.here hx rfl (hb hby at_150) rfl ?_
      show Steps p.tables e below (T98.setTop (mkF m 152 #[.val (.int p0), .val (.int p1), .val (.ref b71), .val (.int (0 : Int32)), .val (.int (p1 &&& (2147483647 : Int32))), .val (.long ((p1 &&& (2147483647 : Int32)).toInt64)), .second, .val (.long (((p1 &&& (2147483647 : Int32)).toInt64) * ((p1 &&& (2147483647 : Int32)).toInt64))), .second] [(.int (p1 &&& (2147483647 : Int32))), (.ref w_1)])) _
      refine st125.trans ?_
      show Steps p.tables e below (T125.setTop (mkF m 155 #[.val (.int p0), .val (.int p1), .val (.ref b71), .val (.int (0 : Int32)), .val (.int (p1 &&& (2147483647 : Int32))), .val (.long ((p1 &&& (2147483647 : Int32)).toInt64)), .second, .val (.long (((p1 &&& (2147483647 : Int32)).toInt64) * ((p1 &&& (2147483647 : Int32)).toInt64))), .second] [(.long ((((((p1 &&& (2147483647 : Int32)).toInt64) * (((p1 &&& (2147483647 : Int32)) - (1 : Int32)).toInt64)) / (2 : Int64)) + ((p1 &&& (2147483647 : Int32)).toInt64)) + ((((p1 &&& (2147483647 : Int32)).toInt64) * (((p1 &&& (2147483647 : Int32)) - (1 : Int32)).toInt64)) / (2 : Int64))))])) _
      refine XS.lload X125.here hx rfl (hb hby at_155) rfl ?_
      show Steps p.tables e below (T125.setTop (mkF m 157 #[.val (.int p0), .val (.int p1), .val (.ref b71), .val (.int (0 : Int32)), .val (.int (p1 &&& (2147483647 : Int32))), .val (.long ((p1 &&& (2147483647 : Int32)).toInt64)), .second, .val (.long (((p1 &&& (2147483647 : Int32)).toInt64) * ((p1 &&& (2147483647 : Int32)).toInt64))), .second] [(.long (((p1 &&& (2147483647 : Int32)).toInt64) * ((p1 &&& (2147483647 : Int32)).toInt64))), (.long ((((((p1 &&& (2147483647 : Int32)).toInt64) * (((p1 &&& (2147483647 : Int32)) - (1 : Int32)).toInt64)) / (2 : Int64)) + ((p1 &&& (2147483647 : Int32)).toInt64)) + ((((p1 &&& (2147483647 : Int32)).toInt64) * (((p1 &&& (2147483647 : Int32)) - (1 : Int32)).toInt64)) / (2 : Int64))))])) _
      refine XS.lcmp X125.here hx rfl (hb hby at_157) rfl ?_
      show Steps p.tables e below (T125.setTop (mkF m 158 #[.val (.int p0), .val (.int p1), .val (.ref b71), .val (.int (0 : Int32)), .val (.int (p1 &&& (2147483647 : Int32))), .val (.long ((p1 &&& (2147483647 : Int32)).toInt64)), .second, .val (.long (((p1 &&& (2147483647 : Int32)).toInt64) * ((p1 &&& (2147483647 : Int32)).toInt64))), .second] [(.int (lcmpW ((((((p1 &&& (2147483647 : Int32)).toInt64) * (((p1 &&& (2147483647 : Int32)) - (1 : Int32)).toInt64)) / (2 : Int64)) + ((p1 &&& (2147483647 : Int32)).toInt64)) + ((((p1 &&& (2147483647 : Int32)).toInt64) * (((p1 &&& (2147483647 : Int32)) - (1 : Int32)).toInt64)) / (2 : Int64))) (((p1 &&& (2147483647 : Int32)).toInt64) * ((p1 &&& (2147483647 : Int32)).toInt64))))])) _
      exact kt
    by_cases hc127 : (lcmpW ((((((p1 &&& (2147483647 : Int32)).toInt64) * (((p1 &&& (2147483647 : Int32)) - (1 : Int32)).toInt64)) / (2 : Int64)) + ((p1 &&& (2147483647 : Int32)).toInt64)) + ((((p1 &&& (2147483647 : Int32)).toInt64) * (((p1 &&& (2147483647 : Int32)) - (1 : Int32)).toInt64)) / (2 : Int64))) (((p1 &&& (2147483647 : Int32)).toInt64) * ((p1 &&& (2147483647 : Int32)).toInt64))) = (0 : Int32)
    · obtain ⟨fs, hr, hrun, hended, hW, hsame⟩ := X125.leave (v := some (.int (1 : Int32))) (fun h => by rw [Bd.returns] at h; cases h)
      refine ⟨_, _, pre126 _ ?_, hrun, hended, _, _, rfl, ?_, ⟨_, rfl⟩, hW, hsame.mono (by decide) (by decide)⟩
      · show Steps p.tables e below (T125.setTop (mkF m 158 #[.val (.int p0), .val (.int p1), .val (.ref b71), .val (.int (0 : Int32)), .val (.int (p1 &&& (2147483647 : Int32))), .val (.long ((p1 &&& (2147483647 : Int32)).toInt64)), .second, .val (.long (((p1 &&& (2147483647 : Int32)).toInt64) * ((p1 &&& (2147483647 : Int32)).toInt64))), .second] [(.int (lcmpW ((((((p1 &&& (2147483647 : Int32)).toInt64) * (((p1 &&& (2147483647 : Int32)) - (1 : Int32)).toInt64)) / (2 : Int64)) + ((p1 &&& (2147483647 : Int32)).toInt64)) + ((((p1 &&& (2147483647 : Int32)).toInt64) * (((p1 &&& (2147483647 : Int32)) - (1 : Int32)).toInt64)) / (2 : Int64))) (((p1 &&& (2147483647 : Int32)).toInt64) * ((p1 &&& (2147483647 : Int32)).toInt64))))])) _
        refine XS.ifNo X125.here hx rfl (hb hby at_158) rfl ((if0 _ _).trans (teq hc127).2) ?_
        show Steps p.tables e below (T125.setTop (mkF m 161 #[.val (.int p0), .val (.int p1), .val (.ref b71), .val (.int (0 : Int32)), .val (.int (p1 &&& (2147483647 : Int32))), .val (.long ((p1 &&& (2147483647 : Int32)).toInt64)), .second, .val (.long (((p1 &&& (2147483647 : Int32)).toInt64) * ((p1 &&& (2147483647 : Int32)).toInt64))), .second] [])) _
        refine XS.iconst X125.here hx rfl (hb hby at_161) ?_
        show Steps p.tables e below (T125.setTop (mkF m 162 #[.val (.int p0), .val (.int p1), .val (.ref b71), .val (.int (0 : Int32)), .val (.int (p1 &&& (2147483647 : Int32))), .val (.long ((p1 &&& (2147483647 : Int32)).toInt64)), .second, .val (.long (((p1 &&& (2147483647 : Int32)).toInt64) * ((p1 &&& (2147483647 : Int32)).toInt64))), .second] [(.int (1 : Int32))])) _
        refine XS.goto X125.here hx rfl (pc0 := 162) (pc' := 166) rfl (hb hby at_162) (by decide) (by decide) ?_
        show Steps p.tables e below (T125.setTop (mkF m 166 #[.val (.int p0), .val (.int p1), .val (.ref b71), .val (.int (0 : Int32)), .val (.int (p1 &&& (2147483647 : Int32))), .val (.long ((p1 &&& (2147483647 : Int32)).toInt64)), .second, .val (.long (((p1 &&& (2147483647 : Int32)).toInt64) * ((p1 &&& (2147483647 : Int32)).toInt64))), .second] [(.int (1 : Int32))])) _
        exact retN X125 hx (t := .boolean) Bd.returns (by simp) (hb hby at_166) hr
      · show Q0 Z w_1 w_2 w_3 w_4 w_5 w_6 w_7 w_8 w_9 p0 p1 h0 n0 _ T125.heap _
        rw [e125]
        exact ⟨by unfold sp0; rw [if_pos hc100, if_pos hc127], N125, trivial⟩
    · obtain ⟨fs, hr, hrun, hended, hW, hsame⟩ := X125.leave (v := some (.int (0 : Int32))) (fun h => by rw [Bd.returns] at h; cases h)
      refine ⟨_, _, pre126 _ ?_, hrun, hended, _, _, rfl, ?_, ⟨_, rfl⟩, hW, hsame.mono (by decide) (by decide)⟩
      · show Steps p.tables e below (T125.setTop (mkF m 158 #[.val (.int p0), .val (.int p1), .val (.ref b71), .val (.int (0 : Int32)), .val (.int (p1 &&& (2147483647 : Int32))), .val (.long ((p1 &&& (2147483647 : Int32)).toInt64)), .second, .val (.long (((p1 &&& (2147483647 : Int32)).toInt64) * ((p1 &&& (2147483647 : Int32)).toInt64))), .second] [(.int (lcmpW ((((((p1 &&& (2147483647 : Int32)).toInt64) * (((p1 &&& (2147483647 : Int32)) - (1 : Int32)).toInt64)) / (2 : Int64)) + ((p1 &&& (2147483647 : Int32)).toInt64)) + ((((p1 &&& (2147483647 : Int32)).toInt64) * (((p1 &&& (2147483647 : Int32)) - (1 : Int32)).toInt64)) / (2 : Int64))) (((p1 &&& (2147483647 : Int32)).toInt64) * ((p1 &&& (2147483647 : Int32)).toInt64))))])) _
        refine XS.ifYes X125.here hx rfl (pc0 := 158) (pc' := 165) rfl (hb hby at_158) rfl ((if0 _ _).trans (feq hc127).2) (by decide) (by decide) ?_
        show Steps p.tables e below (T125.setTop (mkF m 165 #[.val (.int p0), .val (.int p1), .val (.ref b71), .val (.int (0 : Int32)), .val (.int (p1 &&& (2147483647 : Int32))), .val (.long ((p1 &&& (2147483647 : Int32)).toInt64)), .second, .val (.long (((p1 &&& (2147483647 : Int32)).toInt64) * ((p1 &&& (2147483647 : Int32)).toInt64))), .second] [])) _
        refine XS.iconst X125.here hx rfl (hb hby at_165) ?_
        show Steps p.tables e below (T125.setTop (mkF m 166 #[.val (.int p0), .val (.int p1), .val (.ref b71), .val (.int (0 : Int32)), .val (.int (p1 &&& (2147483647 : Int32))), .val (.long ((p1 &&& (2147483647 : Int32)).toInt64)), .second, .val (.long (((p1 &&& (2147483647 : Int32)).toInt64) * ((p1 &&& (2147483647 : Int32)).toInt64))), .second] [(.int (0 : Int32))])) _
        exact retN X125 hx (t := .boolean) Bd.returns (by simp) (hb hby at_166) hr
      · show Q0 Z w_1 w_2 w_3 w_4 w_5 w_6 w_7 w_8 w_9 p0 p1 h0 n0 _ T125.heap _
        rw [e125]
        exact ⟨by unfold sp0; rw [if_pos hc100, if_neg hc127], N125, trivial⟩
  · have pre128 : ∀ t, Steps p.tables e below (T98.setTop (mkF m 98 #[.val (.int p0), .val (.int p1), .val (.ref b71), .val (.int ((p0 &&& (2147483647 : Int32)) % (9 : Int32))), .val (.int (p1 &&& (2147483647 : Int32))), .val (.long ((p1 &&& (2147483647 : Int32)).toInt64)), .second, .unset, .unset] [(.int (3 : Int32)), (.int ((p0 &&& (2147483647 : Int32)) % (9 : Int32)))])) t → Steps p.tables e below (s₁.setTop (entryFrame m #[(.int p0), (.int p1)] maxLocals)) t := fun t kt => by
      refine pre99 t ?_
      show Steps p.tables e below (T98.setTop (mkF m 83 #[.val (.int p0), .val (.int p1), .val (.ref b71), .val (.int ((p0 &&& (2147483647 : Int32)) % (9 : Int32))), .val (.int (p1 &&& (2147483647 : Int32))), .val (.long ((p1 &&& (2147483647 : Int32)).toInt64)), .second, .unset, .unset] [(.int ((p0 &&& (2147483647 : Int32)) % (9 : Int32)))])) _
      refine XS.ifYes X98.here hx rfl (pc0 := 83) (pc' := 96) rfl (hb hby at_83) rfl ((if0 _ _).trans (feq hc100).2) (by decide) (by decide) ?_
      show Steps p.tables e below (T98.setTop (mkF m 96 #[.val (.int p0), .val (.int p1), .val (.ref b71), .val (.int ((p0 &&& (2147483647 : Int32)) % (9 : Int32))), .val (.int (p1 &&& (2147483647 : Int32))), .val (.long ((p1 &&& (2147483647 : Int32)).toInt64)), .second, .unset, .unset] [])) _
      refine XS.iloadN X98.here hx rfl (hb hby at_96) rfl ?_
      show Steps p.tables e below (T98.setTop (mkF m 97 #[.val (.int p0), .val (.int p1), .val (.ref b71), .val (.int ((p0 &&& (2147483647 : Int32)) % (9 : Int32))), .val (.int (p1 &&& (2147483647 : Int32))), .val (.long ((p1 &&& (2147483647 : Int32)).toInt64)), .second, .unset, .unset] [(.int ((p0 &&& (2147483647 : Int32)) % (9 : Int32)))])) _
      refine XS.iconst X98.here hx rfl (hb hby at_97) ?_
      show Steps p.tables e below (T98.setTop (mkF m 98 #[.val (.int p0), .val (.int p1), .val (.ref b71), .val (.int ((p0 &&& (2147483647 : Int32)) % (9 : Int32))), .val (.int (p1 &&& (2147483647 : Int32))), .val (.long ((p1 &&& (2147483647 : Int32)).toInt64)), .second, .unset, .unset] [(.int (3 : Int32)), (.int ((p0 &&& (2147483647 : Int32)) % (9 : Int32)))])) _
      exact kt
    by_cases hc129 : ((p0 &&& (2147483647 : Int32)) % (9 : Int32)) = (3 : Int32)
    · have pre130 : ∀ t, Steps p.tables e below (T98.setTop (mkF m 149 #[.val (.int p0), .val (.int p1), .val (.ref b71), .val (.int ((p0 &&& (2147483647 : Int32)) % (9 : Int32))), .val (.int (p1 &&& (2147483647 : Int32))), .val (.long ((p1 &&& (2147483647 : Int32)).toInt64)), .second, .val (.long ((((p1 &&& (2147483647 : Int32)).toInt64) * (((p1 &&& (2147483647 : Int32)).toInt64) + (1 : Int64))) / (2 : Int64))), .second] [(.int ((p0 &&& (2147483647 : Int32)) % (9 : Int32))), (.ref b71)])) t → Steps p.tables e below (s₁.setTop (entryFrame m #[(.int p0), (.int p1)] maxLocals)) t := fun t kt => by
        refine pre128 t ?_
        show Steps p.tables e below (T98.setTop (mkF m 98 #[.val (.int p0), .val (.int p1), .val (.ref b71), .val (.int ((p0 &&& (2147483647 : Int32)) % (9 : Int32))), .val (.int (p1 &&& (2147483647 : Int32))), .val (.long ((p1 &&& (2147483647 : Int32)).toInt64)), .second, .unset, .unset] [(.int (3 : Int32)), (.int ((p0 &&& (2147483647 : Int32)) % (9 : Int32)))])) _
        refine XS.icmpYes X98.here hx rfl (pc0 := 98) (pc' := 118) rfl (hb hby at_98) rfl (teq hc129).1 (by decide) (by decide) ?_
        show Steps p.tables e below (T98.setTop (mkF m 118 #[.val (.int p0), .val (.int p1), .val (.ref b71), .val (.int ((p0 &&& (2147483647 : Int32)) % (9 : Int32))), .val (.int (p1 &&& (2147483647 : Int32))), .val (.long ((p1 &&& (2147483647 : Int32)).toInt64)), .second, .unset, .unset] [])) _
        refine XS.lload X98.here hx rfl (hb hby at_118) rfl ?_
        show Steps p.tables e below (T98.setTop (mkF m 120 #[.val (.int p0), .val (.int p1), .val (.ref b71), .val (.int ((p0 &&& (2147483647 : Int32)) % (9 : Int32))), .val (.int (p1 &&& (2147483647 : Int32))), .val (.long ((p1 &&& (2147483647 : Int32)).toInt64)), .second, .unset, .unset] [(.long ((p1 &&& (2147483647 : Int32)).toInt64))])) _
        refine XS.lload X98.here hx rfl (hb hby at_120) rfl ?_
        show Steps p.tables e below (T98.setTop (mkF m 122 #[.val (.int p0), .val (.int p1), .val (.ref b71), .val (.int ((p0 &&& (2147483647 : Int32)) % (9 : Int32))), .val (.int (p1 &&& (2147483647 : Int32))), .val (.long ((p1 &&& (2147483647 : Int32)).toInt64)), .second, .unset, .unset] [(.long ((p1 &&& (2147483647 : Int32)).toInt64)), (.long ((p1 &&& (2147483647 : Int32)).toInt64))])) _
        refine XS.lconst X98.here hx rfl (hb hby at_122) ?_
        show Steps p.tables e below (T98.setTop (mkF m 123 #[.val (.int p0), .val (.int p1), .val (.ref b71), .val (.int ((p0 &&& (2147483647 : Int32)) % (9 : Int32))), .val (.int (p1 &&& (2147483647 : Int32))), .val (.long ((p1 &&& (2147483647 : Int32)).toInt64)), .second, .unset, .unset] [(.long (1 : Int64)), (.long ((p1 &&& (2147483647 : Int32)).toInt64)), (.long ((p1 &&& (2147483647 : Int32)).toInt64))])) _
        refine XS.ladd X98.here hx rfl (hb hby at_123) rfl ?_
        show Steps p.tables e below (T98.setTop (mkF m 124 #[.val (.int p0), .val (.int p1), .val (.ref b71), .val (.int ((p0 &&& (2147483647 : Int32)) % (9 : Int32))), .val (.int (p1 &&& (2147483647 : Int32))), .val (.long ((p1 &&& (2147483647 : Int32)).toInt64)), .second, .unset, .unset] [(.long (((p1 &&& (2147483647 : Int32)).toInt64) + (1 : Int64))), (.long ((p1 &&& (2147483647 : Int32)).toInt64))])) _
        refine XS.lmul X98.here hx rfl (hb hby at_124) rfl ?_
        show Steps p.tables e below (T98.setTop (mkF m 125 #[.val (.int p0), .val (.int p1), .val (.ref b71), .val (.int ((p0 &&& (2147483647 : Int32)) % (9 : Int32))), .val (.int (p1 &&& (2147483647 : Int32))), .val (.long ((p1 &&& (2147483647 : Int32)).toInt64)), .second, .unset, .unset] [(.long (((p1 &&& (2147483647 : Int32)).toInt64) * (((p1 &&& (2147483647 : Int32)).toInt64) + (1 : Int64))))])) _
        refine X98.ldc2Long hx hown (mvT hZ (hw _ (tk 35 rfl))) (g := (mkF m 125 #[.val (.int p0), .val (.int p1), .val (.ref b71), .val (.int ((p0 &&& (2147483647 : Int32)) % (9 : Int32))), .val (.int (p1 &&& (2147483647 : Int32))), .val (.long ((p1 &&& (2147483647 : Int32)).toInt64)), .second, .unset, .unset] [(.long (((p1 &&& (2147483647 : Int32)).toInt64) * (((p1 &&& (2147483647 : Int32)).toInt64) + (1 : Int64))))])) rfl (hb hby at_125) _ ?_
        show Steps p.tables e below (T98.setTop (mkF m 128 #[.val (.int p0), .val (.int p1), .val (.ref b71), .val (.int ((p0 &&& (2147483647 : Int32)) % (9 : Int32))), .val (.int (p1 &&& (2147483647 : Int32))), .val (.long ((p1 &&& (2147483647 : Int32)).toInt64)), .second, .unset, .unset] [(.long (2 : Int64)), (.long (((p1 &&& (2147483647 : Int32)).toInt64) * (((p1 &&& (2147483647 : Int32)).toInt64) + (1 : Int64))))])) _
        refine XS.ldiv X98.here hx rfl (hb hby at_128) rfl (by decide : ¬ ((2 : Int64) = (0 : Int64))) ?_
        show Steps p.tables e below (T98.setTop (mkF m 129 #[.val (.int p0), .val (.int p1), .val (.ref b71), .val (.int ((p0 &&& (2147483647 : Int32)) % (9 : Int32))), .val (.int (p1 &&& (2147483647 : Int32))), .val (.long ((p1 &&& (2147483647 : Int32)).toInt64)), .second, .unset, .unset] [(.long ((((p1 &&& (2147483647 : Int32)).toInt64) * (((p1 &&& (2147483647 : Int32)).toInt64) + (1 : Int64))) / (2 : Int64)))])) _
        refine XS.lstore X98.here hx rfl (hb hby at_129) rfl (l' := #[.val (.int p0), .val (.int p1), .val (.ref b71), .val (.int ((p0 &&& (2147483647 : Int32)) % (9 : Int32))), .val (.int (p1 &&& (2147483647 : Int32))), .val (.long ((p1 &&& (2147483647 : Int32)).toInt64)), .second, .val (.long ((((p1 &&& (2147483647 : Int32)).toInt64) * (((p1 &&& (2147483647 : Int32)).toInt64) + (1 : Int64))) / (2 : Int64))), .second]) rfl ?_
        show Steps p.tables e below (T98.setTop (mkF m 131 #[.val (.int p0), .val (.int p1), .val (.ref b71), .val (.int ((p0 &&& (2147483647 : Int32)) % (9 : Int32))), .val (.int (p1 &&& (2147483647 : Int32))), .val (.long ((p1 &&& (2147483647 : Int32)).toInt64)), .second, .val (.long ((((p1 &&& (2147483647 : Int32)).toInt64) * (((p1 &&& (2147483647 : Int32)).toInt64) + (1 : Int64))) / (2 : Int64))), .second] [])) _
        refine XS.goto X98.here hx rfl (pc0 := 131) (pc' := 147) rfl (hb hby at_131) (by decide) (by decide) ?_
        show Steps p.tables e below (T98.setTop (mkF m 147 #[.val (.int p0), .val (.int p1), .val (.ref b71), .val (.int ((p0 &&& (2147483647 : Int32)) % (9 : Int32))), .val (.int (p1 &&& (2147483647 : Int32))), .val (.long ((p1 &&& (2147483647 : Int32)).toInt64)), .second, .val (.long ((((p1 &&& (2147483647 : Int32)).toInt64) * (((p1 &&& (2147483647 : Int32)).toInt64) + (1 : Int64))) / (2 : Int64))), .second] [])) _
        refine XS.aloadN X98.here hx rfl (hb hby at_147) rfl rfl ?_
        show Steps p.tables e below (T98.setTop (mkF m 148 #[.val (.int p0), .val (.int p1), .val (.ref b71), .val (.int ((p0 &&& (2147483647 : Int32)) % (9 : Int32))), .val (.int (p1 &&& (2147483647 : Int32))), .val (.long ((p1 &&& (2147483647 : Int32)).toInt64)), .second, .val (.long ((((p1 &&& (2147483647 : Int32)).toInt64) * (((p1 &&& (2147483647 : Int32)).toInt64) + (1 : Int64))) / (2 : Int64))), .second] [(.ref b71)])) _
        refine XS.iloadN X98.here hx rfl (hb hby at_148) rfl ?_
        show Steps p.tables e below (T98.setTop (mkF m 149 #[.val (.int p0), .val (.int p1), .val (.ref b71), .val (.int ((p0 &&& (2147483647 : Int32)) % (9 : Int32))), .val (.int (p1 &&& (2147483647 : Int32))), .val (.long ((p1 &&& (2147483647 : Int32)).toInt64)), .second, .val (.long ((((p1 &&& (2147483647 : Int32)).toInt64) * (((p1 &&& (2147483647 : Int32)).toInt64) + (1 : Int64))) / (2 : Int64))), .second] [(.int ((p0 &&& (2147483647 : Int32)) % (9 : Int32))), (.ref b71)])) _
        exact kt
      have pre131 : ∀ t, Steps p.tables e below (T98.setTop (mkF m 149 #[.val (.int p0), .val (.int p1), .val (.ref b71), .val (.int (3 : Int32)), .val (.int (p1 &&& (2147483647 : Int32))), .val (.long ((p1 &&& (2147483647 : Int32)).toInt64)), .second, .val (.long ((((p1 &&& (2147483647 : Int32)).toInt64) * (((p1 &&& (2147483647 : Int32)).toInt64) + (1 : Int64))) / (2 : Int64))), .second] [(.int (3 : Int32)), (.ref b71)])) t → Steps p.tables e below (s₁.setTop (entryFrame m #[(.int p0), (.int p1)] maxLocals)) t := fun t kt => pre130 t (by rw [(by rw [hc129] <;> decide : ((p0 &&& (2147483647 : Int32)) % (9 : Int32)) = (3 : Int32))]; exact kt)
      obtain ⟨cl132, Ar132, qa132, Sa132, Ma132, Ha132, Ga132⟩ := id V_b71_98
      have hin132 : ¬ ((3 : Int32) < 0 ∨ cl132.slots.size ≤ ((3 : Int32)).toNatClampNeg) := by  exact inb_of Sa132 ⟨by decide, by decide⟩
      have hat132 : cl132.slots[((3 : Int32)).toNatClampNeg]? = some (.ref w_4) := Has.at Ha132 hin132 (by rfl)
      obtain ⟨cq133, kq133, q133a, q133b, q133c⟩ := isOf hZ e98 (E_4.ext O98.2)
      obtain ⟨_, _, ⟨T133, L133, k133, n133⟩, -, X133, ⟨Lc133, hQ133, l133, y133, z133⟩, st133⟩ := X98.virtualBack hx (y := Y0) (z := Y0) hown (mvT hZ (hw _ (tk 23 rfl))) (mvT hZ (hw _ (tk 24 rfl))) (notFace_of_selects (args := #[]) (mvT hZ (hw _ (tk 26 rfl)))) (mvT hZ (hw _ (tk 26 rfl))) (mvT hZ (hw _ (tk 25 rfl))) (by decide) (backOf (W := 0) (rm1 l Z a0 hw [] w_1 w_2 w_3 w_4 w_5 w_6 w_7 w_8 w_9 hS0 w_4 (p1 &&& (2147483647 : Int32)) (0 : Int32) (1 : Int32) (1 : Int32) h98 n0 O98 (F_4_belowDiagonal.ext O98.2) (F_4_diagonal.ext O98.2) (F_4_aboveDiagonal.ext O98.2)) hZ (hw _ (tk 27 rfl)) (hw _ (tk 3 rfl)) (by decide) (by decide)) q133a q133c (g := (mkF m 152 #[.val (.int p0), .val (.int p1), .val (.ref b71), .val (.int (3 : Int32)), .val (.int (p1 &&& (2147483647 : Int32))), .val (.long ((p1 &&& (2147483647 : Int32)).toInt64)), .second, .val (.long ((((p1 &&& (2147483647 : Int32)).toInt64) * (((p1 &&& (2147483647 : Int32)).toInt64) + (1 : Int64))) / (2 : Int64))), .second] [(.int (p1 &&& (2147483647 : Int32))), (.ref w_4)])) rfl (by rw [hml]; rfl) (Steps.refl _) (argsL := [(.int (p1 &&& (2147483647 : Int32)))]) (rest := []) (lenOf pd_0 rfl) rfl (by show 2 * 0 + _ ≤ _; exact Nat.le_of_eq rfl) (hb hby at_152) (fun _ _ => ⟨rfl, e98, (by decide : 1 + 0 ≤ _), (by decide : 9 + 0 ≤ _)⟩)
      dsimp only [Pt.U, Pt.locs, Pt.cells, Pt.slots] at X133 l133 y133 z133 st133 hQ133
      subst l133 y133 z133
      obtain ⟨rv133, N133q, e133⟩ := hQ133
      rw [show sp1 (p1 &&& (2147483647 : Int32)) (0 : Int32) (1 : Int32) (1 : Int32) = (((0 : Int64) + ((p1 &&& (2147483647 : Int32)).toInt64)) + ((((p1 &&& (2147483647 : Int32)).toInt64) * (((p1 &&& (2147483647 : Int32)) - (1 : Int32)).toInt64)) / (2 : Int64))) from by unfold sp1; rw [if_pos (by decide : ((0 : Int32) = (0 : Int32))), if_neg (by decide : ¬ ((1 : Int32) = (0 : Int32))), if_neg (by decide : ¬ ((1 : Int32) = (0 : Int32)))]] at rv133
      subst rv133
      have N133 := Fr.app N98 N133q
      have pre134 : ∀ t, Steps p.tables e below (T133.setTop (mkF m 158 #[.val (.int p0), .val (.int p1), .val (.ref b71), .val (.int (3 : Int32)), .val (.int (p1 &&& (2147483647 : Int32))), .val (.long ((p1 &&& (2147483647 : Int32)).toInt64)), .second, .val (.long ((((p1 &&& (2147483647 : Int32)).toInt64) * (((p1 &&& (2147483647 : Int32)).toInt64) + (1 : Int64))) / (2 : Int64))), .second] [(.int (lcmpW (((0 : Int64) + ((p1 &&& (2147483647 : Int32)).toInt64)) + ((((p1 &&& (2147483647 : Int32)).toInt64) * (((p1 &&& (2147483647 : Int32)) - (1 : Int32)).toInt64)) / (2 : Int64))) ((((p1 &&& (2147483647 : Int32)).toInt64) * (((p1 &&& (2147483647 : Int32)).toInt64) + (1 : Int64))) / (2 : Int64))))])) t → Steps p.tables e below (s₁.setTop (entryFrame m #[(.int p0), (.int p1)] maxLocals)) t := fun t kt => by
        refine pre131 t ?_
        show Steps p.tables e below (T98.setTop (mkF m 149 #[.val (.int p0), .val (.int p1), .val (.ref b71), .val (.int (3 : Int32)), .val (.int (p1 &&& (2147483647 : Int32))), .val (.long ((p1 &&& (2147483647 : Int32)).toInt64)), .second, .val (.long ((((p1 &&& (2147483647 : Int32)).toInt64) * (((p1 &&& (2147483647 : Int32)).toInt64) + (1 : Int64))) / (2 : Int64))), .second] [(.int (3 : Int32)), (.ref b71)])) _
        refine X98.aaload hx (j := (3 : Int32)) (v := (.ref w_4)) (by rw [e98]; exact Ar132.1) (State.isArrayOf_alike hZ.alike Ar132.2.1) rfl Ar132.2.2 hin132 hat132 (g := (mkF m 149 #[.val (.int p0), .val (.int p1), .val (.ref b71), .val (.int (3 : Int32)), .val (.int (p1 &&& (2147483647 : Int32))), .val (.long ((p1 &&& (2147483647 : Int32)).toInt64)), .second, .val (.long ((((p1 &&& (2147483647 : Int32)).toInt64) * (((p1 &&& (2147483647 : Int32)).toInt64) + (1 : Int64))) / (2 : Int64))), .second] [(.int (3 : Int32)), (.ref b71)])) rfl rfl (hb hby at_149) _ ?_
        show Steps p.tables e below (T98.setTop (mkF m 150 #[.val (.int p0), .val (.int p1), .val (.ref b71), .val (.int (3 : Int32)), .val (.int (p1 &&& (2147483647 : Int32))), .val (.long ((p1 &&& (2147483647 : Int32)).toInt64)), .second, .val (.long ((((p1 &&& (2147483647 : Int32)).toInt64) * (((p1 &&& (2147483647 : Int32)).toInt64) + (1 : Int64))) / (2 : Int64))), .second] [(.ref w_4)])) _
        refine XS.iload X98.here hx rfl (hb hby at_150) rfl ?_
        show Steps p.tables e below (T98.setTop (mkF m 152 #[.val (.int p0), .val (.int p1), .val (.ref b71), .val (.int (3 : Int32)), .val (.int (p1 &&& (2147483647 : Int32))), .val (.long ((p1 &&& (2147483647 : Int32)).toInt64)), .second, .val (.long ((((p1 &&& (2147483647 : Int32)).toInt64) * (((p1 &&& (2147483647 : Int32)).toInt64) + (1 : Int64))) / (2 : Int64))), .second] [(.int (p1 &&& (2147483647 : Int32))), (.ref w_4)])) _
        refine st133.trans ?_
        show Steps p.tables e below (T133.setTop (mkF m 155 #[.val (.int p0), .val (.int p1), .val (.ref b71), .val (.int (3 : Int32)), .val (.int (p1 &&& (2147483647 : Int32))), .val (.long ((p1 &&& (2147483647 : Int32)).toInt64)), .second, .val (.long ((((p1 &&& (2147483647 : Int32)).toInt64) * (((p1 &&& (2147483647 : Int32)).toInt64) + (1 : Int64))) / (2 : Int64))), .second] [(.long (((0 : Int64) + ((p1 &&& (2147483647 : Int32)).toInt64)) + ((((p1 &&& (2147483647 : Int32)).toInt64) * (((p1 &&& (2147483647 : Int32)) - (1 : Int32)).toInt64)) / (2 : Int64))))])) _
        refine XS.lload X133.here hx rfl (hb hby at_155) rfl ?_
        show Steps p.tables e below (T133.setTop (mkF m 157 #[.val (.int p0), .val (.int p1), .val (.ref b71), .val (.int (3 : Int32)), .val (.int (p1 &&& (2147483647 : Int32))), .val (.long ((p1 &&& (2147483647 : Int32)).toInt64)), .second, .val (.long ((((p1 &&& (2147483647 : Int32)).toInt64) * (((p1 &&& (2147483647 : Int32)).toInt64) + (1 : Int64))) / (2 : Int64))), .second] [(.long ((((p1 &&& (2147483647 : Int32)).toInt64) * (((p1 &&& (2147483647 : Int32)).toInt64) + (1 : Int64))) / (2 : Int64))), (.long (((0 : Int64) + ((p1 &&& (2147483647 : Int32)).toInt64)) + ((((p1 &&& (2147483647 : Int32)).toInt64) * (((p1 &&& (2147483647 : Int32)) - (1 : Int32)).toInt64)) / (2 : Int64))))])) _
        refine XS.lcmp X133.here hx rfl (hb hby at_157) rfl ?_
        show Steps p.tables e below (T133.setTop (mkF m 158 #[.val (.int p0), .val (.int p1), .val (.ref b71), .val (.int (3 : Int32)), .val (.int (p1 &&& (2147483647 : Int32))), .val (.long ((p1 &&& (2147483647 : Int32)).toInt64)), .second, .val (.long ((((p1 &&& (2147483647 : Int32)).toInt64) * (((p1 &&& (2147483647 : Int32)).toInt64) + (1 : Int64))) / (2 : Int64))), .second] [(.int (lcmpW (((0 : Int64) + ((p1 &&& (2147483647 : Int32)).toInt64)) + ((((p1 &&& (2147483647 : Int32)).toInt64) * (((p1 &&& (2147483647 : Int32)) - (1 : Int32)).toInt64)) / (2 : Int64))) ((((p1 &&& (2147483647 : Int32)).toInt64) * (((p1 &&& (2147483647 : Int32)).toInt64) + (1 : Int64))) / (2 : Int64))))])) _
        exact kt
      by_cases hc135 : (lcmpW (((0 : Int64) + ((p1 &&& (2147483647 : Int32)).toInt64)) + ((((p1 &&& (2147483647 : Int32)).toInt64) * (((p1 &&& (2147483647 : Int32)) - (1 : Int32)).toInt64)) / (2 : Int64))) ((((p1 &&& (2147483647 : Int32)).toInt64) * (((p1 &&& (2147483647 : Int32)).toInt64) + (1 : Int64))) / (2 : Int64))) = (0 : Int32)
      · obtain ⟨fs, hr, hrun, hended, hW, hsame⟩ := X133.leave (v := some (.int (1 : Int32))) (fun h => by rw [Bd.returns] at h; cases h)
        refine ⟨_, _, pre134 _ ?_, hrun, hended, _, _, rfl, ?_, ⟨_, rfl⟩, hW, hsame.mono (by decide) (by decide)⟩
        · show Steps p.tables e below (T133.setTop (mkF m 158 #[.val (.int p0), .val (.int p1), .val (.ref b71), .val (.int (3 : Int32)), .val (.int (p1 &&& (2147483647 : Int32))), .val (.long ((p1 &&& (2147483647 : Int32)).toInt64)), .second, .val (.long ((((p1 &&& (2147483647 : Int32)).toInt64) * (((p1 &&& (2147483647 : Int32)).toInt64) + (1 : Int64))) / (2 : Int64))), .second] [(.int (lcmpW (((0 : Int64) + ((p1 &&& (2147483647 : Int32)).toInt64)) + ((((p1 &&& (2147483647 : Int32)).toInt64) * (((p1 &&& (2147483647 : Int32)) - (1 : Int32)).toInt64)) / (2 : Int64))) ((((p1 &&& (2147483647 : Int32)).toInt64) * (((p1 &&& (2147483647 : Int32)).toInt64) + (1 : Int64))) / (2 : Int64))))])) _
          refine XS.ifNo X133.here hx rfl (hb hby at_158) rfl ((if0 _ _).trans (teq hc135).2) ?_
          show Steps p.tables e below (T133.setTop (mkF m 161 #[.val (.int p0), .val (.int p1), .val (.ref b71), .val (.int (3 : Int32)), .val (.int (p1 &&& (2147483647 : Int32))), .val (.long ((p1 &&& (2147483647 : Int32)).toInt64)), .second, .val (.long ((((p1 &&& (2147483647 : Int32)).toInt64) * (((p1 &&& (2147483647 : Int32)).toInt64) + (1 : Int64))) / (2 : Int64))), .second] [])) _
          refine XS.iconst X133.here hx rfl (hb hby at_161) ?_
          show Steps p.tables e below (T133.setTop (mkF m 162 #[.val (.int p0), .val (.int p1), .val (.ref b71), .val (.int (3 : Int32)), .val (.int (p1 &&& (2147483647 : Int32))), .val (.long ((p1 &&& (2147483647 : Int32)).toInt64)), .second, .val (.long ((((p1 &&& (2147483647 : Int32)).toInt64) * (((p1 &&& (2147483647 : Int32)).toInt64) + (1 : Int64))) / (2 : Int64))), .second] [(.int (1 : Int32))])) _
          refine XS.goto X133.here hx rfl (pc0 := 162) (pc' := 166) rfl (hb hby at_162) (by decide) (by decide) ?_
          show Steps p.tables e below (T133.setTop (mkF m 166 #[.val (.int p0), .val (.int p1), .val (.ref b71), .val (.int (3 : Int32)), .val (.int (p1 &&& (2147483647 : Int32))), .val (.long ((p1 &&& (2147483647 : Int32)).toInt64)), .second, .val (.long ((((p1 &&& (2147483647 : Int32)).toInt64) * (((p1 &&& (2147483647 : Int32)).toInt64) + (1 : Int64))) / (2 : Int64))), .second] [(.int (1 : Int32))])) _
          exact retN X133 hx (t := .boolean) Bd.returns (by simp) (hb hby at_166) hr
        · show Q0 Z w_1 w_2 w_3 w_4 w_5 w_6 w_7 w_8 w_9 p0 p1 h0 n0 _ T133.heap _
          rw [e133]
          exact ⟨by unfold sp0; rw [if_neg hc100, if_pos hc129, if_pos hc135], N133, trivial⟩
      · obtain ⟨fs, hr, hrun, hended, hW, hsame⟩ := X133.leave (v := some (.int (0 : Int32))) (fun h => by rw [Bd.returns] at h; cases h)
        refine ⟨_, _, pre134 _ ?_, hrun, hended, _, _, rfl, ?_, ⟨_, rfl⟩, hW, hsame.mono (by decide) (by decide)⟩
        · show Steps p.tables e below (T133.setTop (mkF m 158 #[.val (.int p0), .val (.int p1), .val (.ref b71), .val (.int (3 : Int32)), .val (.int (p1 &&& (2147483647 : Int32))), .val (.long ((p1 &&& (2147483647 : Int32)).toInt64)), .second, .val (.long ((((p1 &&& (2147483647 : Int32)).toInt64) * (((p1 &&& (2147483647 : Int32)).toInt64) + (1 : Int64))) / (2 : Int64))), .second] [(.int (lcmpW (((0 : Int64) + ((p1 &&& (2147483647 : Int32)).toInt64)) + ((((p1 &&& (2147483647 : Int32)).toInt64) * (((p1 &&& (2147483647 : Int32)) - (1 : Int32)).toInt64)) / (2 : Int64))) ((((p1 &&& (2147483647 : Int32)).toInt64) * (((p1 &&& (2147483647 : Int32)).toInt64) + (1 : Int64))) / (2 : Int64))))])) _
          refine XS.ifYes X133.here hx rfl (pc0 := 158) (pc' := 165) rfl (hb hby at_158) rfl ((if0 _ _).trans (feq hc135).2) (by decide) (by decide) ?_
          show Steps p.tables e below (T133.setTop (mkF m 165 #[.val (.int p0), .val (.int p1), .val (.ref b71), .val (.int (3 : Int32)), .val (.int (p1 &&& (2147483647 : Int32))), .val (.long ((p1 &&& (2147483647 : Int32)).toInt64)), .second, .val (.long ((((p1 &&& (2147483647 : Int32)).toInt64) * (((p1 &&& (2147483647 : Int32)).toInt64) + (1 : Int64))) / (2 : Int64))), .second] [])) _
          refine XS.iconst X133.here hx rfl (hb hby at_165) ?_
          show Steps p.tables e below (T133.setTop (mkF m 166 #[.val (.int p0), .val (.int p1), .val (.ref b71), .val (.int (3 : Int32)), .val (.int (p1 &&& (2147483647 : Int32))), .val (.long ((p1 &&& (2147483647 : Int32)).toInt64)), .second, .val (.long ((((p1 &&& (2147483647 : Int32)).toInt64) * (((p1 &&& (2147483647 : Int32)).toInt64) + (1 : Int64))) / (2 : Int64))), .second] [(.int (0 : Int32))])) _
          exact retN X133 hx (t := .boolean) Bd.returns (by simp) (hb hby at_166) hr
        · show Q0 Z w_1 w_2 w_3 w_4 w_5 w_6 w_7 w_8 w_9 p0 p1 h0 n0 _ T133.heap _
          rw [e133]
          exact ⟨by unfold sp0; rw [if_neg hc100, if_pos hc129, if_neg hc135], N133, trivial⟩
    · have pre136 : ∀ t, Steps p.tables e below (T98.setTop (mkF m 103 #[.val (.int p0), .val (.int p1), .val (.ref b71), .val (.int ((p0 &&& (2147483647 : Int32)) % (9 : Int32))), .val (.int (p1 &&& (2147483647 : Int32))), .val (.long ((p1 &&& (2147483647 : Int32)).toInt64)), .second, .unset, .unset] [(.int (4 : Int32)), (.int ((p0 &&& (2147483647 : Int32)) % (9 : Int32)))])) t → Steps p.tables e below (s₁.setTop (entryFrame m #[(.int p0), (.int p1)] maxLocals)) t := fun t kt => by
        refine pre128 t ?_
        show Steps p.tables e below (T98.setTop (mkF m 98 #[.val (.int p0), .val (.int p1), .val (.ref b71), .val (.int ((p0 &&& (2147483647 : Int32)) % (9 : Int32))), .val (.int (p1 &&& (2147483647 : Int32))), .val (.long ((p1 &&& (2147483647 : Int32)).toInt64)), .second, .unset, .unset] [(.int (3 : Int32)), (.int ((p0 &&& (2147483647 : Int32)) % (9 : Int32)))])) _
        refine XS.icmpNo X98.here hx rfl (hb hby at_98) rfl (feq hc129).1 ?_
        show Steps p.tables e below (T98.setTop (mkF m 101 #[.val (.int p0), .val (.int p1), .val (.ref b71), .val (.int ((p0 &&& (2147483647 : Int32)) % (9 : Int32))), .val (.int (p1 &&& (2147483647 : Int32))), .val (.long ((p1 &&& (2147483647 : Int32)).toInt64)), .second, .unset, .unset] [])) _
        refine XS.iloadN X98.here hx rfl (hb hby at_101) rfl ?_
        show Steps p.tables e below (T98.setTop (mkF m 102 #[.val (.int p0), .val (.int p1), .val (.ref b71), .val (.int ((p0 &&& (2147483647 : Int32)) % (9 : Int32))), .val (.int (p1 &&& (2147483647 : Int32))), .val (.long ((p1 &&& (2147483647 : Int32)).toInt64)), .second, .unset, .unset] [(.int ((p0 &&& (2147483647 : Int32)) % (9 : Int32)))])) _
        refine XS.iconst X98.here hx rfl (hb hby at_102) ?_
        show Steps p.tables e below (T98.setTop (mkF m 103 #[.val (.int p0), .val (.int p1), .val (.ref b71), .val (.int ((p0 &&& (2147483647 : Int32)) % (9 : Int32))), .val (.int (p1 &&& (2147483647 : Int32))), .val (.long ((p1 &&& (2147483647 : Int32)).toInt64)), .second, .unset, .unset] [(.int (4 : Int32)), (.int ((p0 &&& (2147483647 : Int32)) % (9 : Int32)))])) _
        exact kt
      by_cases hc137 : ((p0 &&& (2147483647 : Int32)) % (9 : Int32)) = (4 : Int32)
      · have pre138 : ∀ t, Steps p.tables e below (T98.setTop (mkF m 149 #[.val (.int p0), .val (.int p1), .val (.ref b71), .val (.int ((p0 &&& (2147483647 : Int32)) % (9 : Int32))), .val (.int (p1 &&& (2147483647 : Int32))), .val (.long ((p1 &&& (2147483647 : Int32)).toInt64)), .second, .val (.long ((((p1 &&& (2147483647 : Int32)).toInt64) * (((p1 &&& (2147483647 : Int32)).toInt64) + (1 : Int64))) / (2 : Int64))), .second] [(.int ((p0 &&& (2147483647 : Int32)) % (9 : Int32))), (.ref b71)])) t → Steps p.tables e below (s₁.setTop (entryFrame m #[(.int p0), (.int p1)] maxLocals)) t := fun t kt => by
          refine pre136 t ?_
          show Steps p.tables e below (T98.setTop (mkF m 103 #[.val (.int p0), .val (.int p1), .val (.ref b71), .val (.int ((p0 &&& (2147483647 : Int32)) % (9 : Int32))), .val (.int (p1 &&& (2147483647 : Int32))), .val (.long ((p1 &&& (2147483647 : Int32)).toInt64)), .second, .unset, .unset] [(.int (4 : Int32)), (.int ((p0 &&& (2147483647 : Int32)) % (9 : Int32)))])) _
          refine XS.icmpYes X98.here hx rfl (pc0 := 103) (pc' := 118) rfl (hb hby at_103) rfl (teq hc137).1 (by decide) (by decide) ?_
          show Steps p.tables e below (T98.setTop (mkF m 118 #[.val (.int p0), .val (.int p1), .val (.ref b71), .val (.int ((p0 &&& (2147483647 : Int32)) % (9 : Int32))), .val (.int (p1 &&& (2147483647 : Int32))), .val (.long ((p1 &&& (2147483647 : Int32)).toInt64)), .second, .unset, .unset] [])) _
          refine XS.lload X98.here hx rfl (hb hby at_118) rfl ?_
          show Steps p.tables e below (T98.setTop (mkF m 120 #[.val (.int p0), .val (.int p1), .val (.ref b71), .val (.int ((p0 &&& (2147483647 : Int32)) % (9 : Int32))), .val (.int (p1 &&& (2147483647 : Int32))), .val (.long ((p1 &&& (2147483647 : Int32)).toInt64)), .second, .unset, .unset] [(.long ((p1 &&& (2147483647 : Int32)).toInt64))])) _
          refine XS.lload X98.here hx rfl (hb hby at_120) rfl ?_
          show Steps p.tables e below (T98.setTop (mkF m 122 #[.val (.int p0), .val (.int p1), .val (.ref b71), .val (.int ((p0 &&& (2147483647 : Int32)) % (9 : Int32))), .val (.int (p1 &&& (2147483647 : Int32))), .val (.long ((p1 &&& (2147483647 : Int32)).toInt64)), .second, .unset, .unset] [(.long ((p1 &&& (2147483647 : Int32)).toInt64)), (.long ((p1 &&& (2147483647 : Int32)).toInt64))])) _
          refine XS.lconst X98.here hx rfl (hb hby at_122) ?_
          show Steps p.tables e below (T98.setTop (mkF m 123 #[.val (.int p0), .val (.int p1), .val (.ref b71), .val (.int ((p0 &&& (2147483647 : Int32)) % (9 : Int32))), .val (.int (p1 &&& (2147483647 : Int32))), .val (.long ((p1 &&& (2147483647 : Int32)).toInt64)), .second, .unset, .unset] [(.long (1 : Int64)), (.long ((p1 &&& (2147483647 : Int32)).toInt64)), (.long ((p1 &&& (2147483647 : Int32)).toInt64))])) _
          refine XS.ladd X98.here hx rfl (hb hby at_123) rfl ?_
          show Steps p.tables e below (T98.setTop (mkF m 124 #[.val (.int p0), .val (.int p1), .val (.ref b71), .val (.int ((p0 &&& (2147483647 : Int32)) % (9 : Int32))), .val (.int (p1 &&& (2147483647 : Int32))), .val (.long ((p1 &&& (2147483647 : Int32)).toInt64)), .second, .unset, .unset] [(.long (((p1 &&& (2147483647 : Int32)).toInt64) + (1 : Int64))), (.long ((p1 &&& (2147483647 : Int32)).toInt64))])) _
          refine XS.lmul X98.here hx rfl (hb hby at_124) rfl ?_
          show Steps p.tables e below (T98.setTop (mkF m 125 #[.val (.int p0), .val (.int p1), .val (.ref b71), .val (.int ((p0 &&& (2147483647 : Int32)) % (9 : Int32))), .val (.int (p1 &&& (2147483647 : Int32))), .val (.long ((p1 &&& (2147483647 : Int32)).toInt64)), .second, .unset, .unset] [(.long (((p1 &&& (2147483647 : Int32)).toInt64) * (((p1 &&& (2147483647 : Int32)).toInt64) + (1 : Int64))))])) _
          refine X98.ldc2Long hx hown (mvT hZ (hw _ (tk 35 rfl))) (g := (mkF m 125 #[.val (.int p0), .val (.int p1), .val (.ref b71), .val (.int ((p0 &&& (2147483647 : Int32)) % (9 : Int32))), .val (.int (p1 &&& (2147483647 : Int32))), .val (.long ((p1 &&& (2147483647 : Int32)).toInt64)), .second, .unset, .unset] [(.long (((p1 &&& (2147483647 : Int32)).toInt64) * (((p1 &&& (2147483647 : Int32)).toInt64) + (1 : Int64))))])) rfl (hb hby at_125) _ ?_
          show Steps p.tables e below (T98.setTop (mkF m 128 #[.val (.int p0), .val (.int p1), .val (.ref b71), .val (.int ((p0 &&& (2147483647 : Int32)) % (9 : Int32))), .val (.int (p1 &&& (2147483647 : Int32))), .val (.long ((p1 &&& (2147483647 : Int32)).toInt64)), .second, .unset, .unset] [(.long (2 : Int64)), (.long (((p1 &&& (2147483647 : Int32)).toInt64) * (((p1 &&& (2147483647 : Int32)).toInt64) + (1 : Int64))))])) _
          refine XS.ldiv X98.here hx rfl (hb hby at_128) rfl (by decide : ¬ ((2 : Int64) = (0 : Int64))) ?_
          show Steps p.tables e below (T98.setTop (mkF m 129 #[.val (.int p0), .val (.int p1), .val (.ref b71), .val (.int ((p0 &&& (2147483647 : Int32)) % (9 : Int32))), .val (.int (p1 &&& (2147483647 : Int32))), .val (.long ((p1 &&& (2147483647 : Int32)).toInt64)), .second, .unset, .unset] [(.long ((((p1 &&& (2147483647 : Int32)).toInt64) * (((p1 &&& (2147483647 : Int32)).toInt64) + (1 : Int64))) / (2 : Int64)))])) _
          refine XS.lstore X98.here hx rfl (hb hby at_129) rfl (l' := #[.val (.int p0), .val (.int p1), .val (.ref b71), .val (.int ((p0 &&& (2147483647 : Int32)) % (9 : Int32))), .val (.int (p1 &&& (2147483647 : Int32))), .val (.long ((p1 &&& (2147483647 : Int32)).toInt64)), .second, .val (.long ((((p1 &&& (2147483647 : Int32)).toInt64) * (((p1 &&& (2147483647 : Int32)).toInt64) + (1 : Int64))) / (2 : Int64))), .second]) rfl ?_
          show Steps p.tables e below (T98.setTop (mkF m 131 #[.val (.int p0), .val (.int p1), .val (.ref b71), .val (.int ((p0 &&& (2147483647 : Int32)) % (9 : Int32))), .val (.int (p1 &&& (2147483647 : Int32))), .val (.long ((p1 &&& (2147483647 : Int32)).toInt64)), .second, .val (.long ((((p1 &&& (2147483647 : Int32)).toInt64) * (((p1 &&& (2147483647 : Int32)).toInt64) + (1 : Int64))) / (2 : Int64))), .second] [])) _
          refine XS.goto X98.here hx rfl (pc0 := 131) (pc' := 147) rfl (hb hby at_131) (by decide) (by decide) ?_
          show Steps p.tables e below (T98.setTop (mkF m 147 #[.val (.int p0), .val (.int p1), .val (.ref b71), .val (.int ((p0 &&& (2147483647 : Int32)) % (9 : Int32))), .val (.int (p1 &&& (2147483647 : Int32))), .val (.long ((p1 &&& (2147483647 : Int32)).toInt64)), .second, .val (.long ((((p1 &&& (2147483647 : Int32)).toInt64) * (((p1 &&& (2147483647 : Int32)).toInt64) + (1 : Int64))) / (2 : Int64))), .second] [])) _
          refine XS.aloadN X98.here hx rfl (hb hby at_147) rfl rfl ?_
          show Steps p.tables e below (T98.setTop (mkF m 148 #[.val (.int p0), .val (.int p1), .val (.ref b71), .val (.int ((p0 &&& (2147483647 : Int32)) % (9 : Int32))), .val (.int (p1 &&& (2147483647 : Int32))), .val (.long ((p1 &&& (2147483647 : Int32)).toInt64)), .second, .val (.long ((((p1 &&& (2147483647 : Int32)).toInt64) * (((p1 &&& (2147483647 : Int32)).toInt64) + (1 : Int64))) / (2 : Int64))), .second] [(.ref b71)])) _
          refine XS.iloadN X98.here hx rfl (hb hby at_148) rfl ?_
          show Steps p.tables e below (T98.setTop (mkF m 149 #[.val (.int p0), .val (.int p1), .val (.ref b71), .val (.int ((p0 &&& (2147483647 : Int32)) % (9 : Int32))), .val (.int (p1 &&& (2147483647 : Int32))), .val (.long ((p1 &&& (2147483647 : Int32)).toInt64)), .second, .val (.long ((((p1 &&& (2147483647 : Int32)).toInt64) * (((p1 &&& (2147483647 : Int32)).toInt64) + (1 : Int64))) / (2 : Int64))), .second] [(.int ((p0 &&& (2147483647 : Int32)) % (9 : Int32))), (.ref b71)])) _
          exact kt
        have pre139 : ∀ t, Steps p.tables e below (T98.setTop (mkF m 149 #[.val (.int p0), .val (.int p1), .val (.ref b71), .val (.int (4 : Int32)), .val (.int (p1 &&& (2147483647 : Int32))), .val (.long ((p1 &&& (2147483647 : Int32)).toInt64)), .second, .val (.long ((((p1 &&& (2147483647 : Int32)).toInt64) * (((p1 &&& (2147483647 : Int32)).toInt64) + (1 : Int64))) / (2 : Int64))), .second] [(.int (4 : Int32)), (.ref b71)])) t → Steps p.tables e below (s₁.setTop (entryFrame m #[(.int p0), (.int p1)] maxLocals)) t := fun t kt => pre138 t (by rw [(by rw [hc137] <;> decide : ((p0 &&& (2147483647 : Int32)) % (9 : Int32)) = (4 : Int32))]; exact kt)
        obtain ⟨cl140, Ar140, qa140, Sa140, Ma140, Ha140, Ga140⟩ := id V_b71_98
        have hin140 : ¬ ((4 : Int32) < 0 ∨ cl140.slots.size ≤ ((4 : Int32)).toNatClampNeg) := by  exact inb_of Sa140 ⟨by decide, by decide⟩
        have hat140 : cl140.slots[((4 : Int32)).toNatClampNeg]? = some (.ref w_5) := Has.at Ha140 hin140 (by rfl)
        obtain ⟨cq141, kq141, q141a, q141b, q141c⟩ := isOf hZ e98 (E_5.ext O98.2)
        obtain ⟨_, _, ⟨T141, L141, k141, n141⟩, -, X141, ⟨Lc141, hQ141, l141, y141, z141⟩, st141⟩ := X98.virtualBack hx (y := Y0) (z := Y0) hown (mvT hZ (hw _ (tk 23 rfl))) (mvT hZ (hw _ (tk 24 rfl))) (notFace_of_selects (args := #[]) (mvT hZ (hw _ (tk 26 rfl)))) (mvT hZ (hw _ (tk 26 rfl))) (mvT hZ (hw _ (tk 25 rfl))) (by decide) (backOf (W := 0) (rm1 l Z a0 hw [] w_1 w_2 w_3 w_4 w_5 w_6 w_7 w_8 w_9 hS0 w_5 (p1 &&& (2147483647 : Int32)) (1 : Int32) (1 : Int32) (0 : Int32) h98 n0 O98 (F_5_belowDiagonal.ext O98.2) (F_5_diagonal.ext O98.2) (F_5_aboveDiagonal.ext O98.2)) hZ (hw _ (tk 27 rfl)) (hw _ (tk 3 rfl)) (by decide) (by decide)) q141a q141c (g := (mkF m 152 #[.val (.int p0), .val (.int p1), .val (.ref b71), .val (.int (4 : Int32)), .val (.int (p1 &&& (2147483647 : Int32))), .val (.long ((p1 &&& (2147483647 : Int32)).toInt64)), .second, .val (.long ((((p1 &&& (2147483647 : Int32)).toInt64) * (((p1 &&& (2147483647 : Int32)).toInt64) + (1 : Int64))) / (2 : Int64))), .second] [(.int (p1 &&& (2147483647 : Int32))), (.ref w_5)])) rfl (by rw [hml]; rfl) (Steps.refl _) (argsL := [(.int (p1 &&& (2147483647 : Int32)))]) (rest := []) (lenOf pd_0 rfl) rfl (by show 2 * 0 + _ ≤ _; exact Nat.le_of_eq rfl) (hb hby at_152) (fun _ _ => ⟨rfl, e98, (by decide : 1 + 0 ≤ _), (by decide : 9 + 0 ≤ _)⟩)
        dsimp only [Pt.U, Pt.locs, Pt.cells, Pt.slots] at X141 l141 y141 z141 st141 hQ141
        subst l141 y141 z141
        obtain ⟨rv141, N141q, e141⟩ := hQ141
        rw [show sp1 (p1 &&& (2147483647 : Int32)) (1 : Int32) (1 : Int32) (0 : Int32) = ((((((p1 &&& (2147483647 : Int32)).toInt64) * (((p1 &&& (2147483647 : Int32)) - (1 : Int32)).toInt64)) / (2 : Int64)) + ((p1 &&& (2147483647 : Int32)).toInt64)) + (0 : Int64)) from by unfold sp1; rw [if_neg (by decide : ¬ ((1 : Int32) = (0 : Int32))), if_neg (by decide : ¬ ((1 : Int32) = (0 : Int32))), if_pos (by decide : ((0 : Int32) = (0 : Int32)))]] at rv141
        subst rv141
        have N141 := Fr.app N98 N141q
        have pre142 : ∀ t, Steps p.tables e below (T141.setTop (mkF m 158 #[.val (.int p0), .val (.int p1), .val (.ref b71), .val (.int (4 : Int32)), .val (.int (p1 &&& (2147483647 : Int32))), .val (.long ((p1 &&& (2147483647 : Int32)).toInt64)), .second, .val (.long ((((p1 &&& (2147483647 : Int32)).toInt64) * (((p1 &&& (2147483647 : Int32)).toInt64) + (1 : Int64))) / (2 : Int64))), .second] [(.int (lcmpW ((((((p1 &&& (2147483647 : Int32)).toInt64) * (((p1 &&& (2147483647 : Int32)) - (1 : Int32)).toInt64)) / (2 : Int64)) + ((p1 &&& (2147483647 : Int32)).toInt64)) + (0 : Int64)) ((((p1 &&& (2147483647 : Int32)).toInt64) * (((p1 &&& (2147483647 : Int32)).toInt64) + (1 : Int64))) / (2 : Int64))))])) t → Steps p.tables e below (s₁.setTop (entryFrame m #[(.int p0), (.int p1)] maxLocals)) t := fun t kt => by
          refine pre139 t ?_
          show Steps p.tables e below (T98.setTop (mkF m 149 #[.val (.int p0), .val (.int p1), .val (.ref b71), .val (.int (4 : Int32)), .val (.int (p1 &&& (2147483647 : Int32))), .val (.long ((p1 &&& (2147483647 : Int32)).toInt64)), .second, .val (.long ((((p1 &&& (2147483647 : Int32)).toInt64) * (((p1 &&& (2147483647 : Int32)).toInt64) + (1 : Int64))) / (2 : Int64))), .second] [(.int (4 : Int32)), (.ref b71)])) _
          refine X98.aaload hx (j := (4 : Int32)) (v := (.ref w_5)) (by rw [e98]; exact Ar140.1) (State.isArrayOf_alike hZ.alike Ar140.2.1) rfl Ar140.2.2 hin140 hat140 (g := (mkF m 149 #[.val (.int p0), .val (.int p1), .val (.ref b71), .val (.int (4 : Int32)), .val (.int (p1 &&& (2147483647 : Int32))), .val (.long ((p1 &&& (2147483647 : Int32)).toInt64)), .second, .val (.long ((((p1 &&& (2147483647 : Int32)).toInt64) * (((p1 &&& (2147483647 : Int32)).toInt64) + (1 : Int64))) / (2 : Int64))), .second] [(.int (4 : Int32)), (.ref b71)])) rfl rfl (hb hby at_149) _ ?_
          show Steps p.tables e below (T98.setTop (mkF m 150 #[.val (.int p0), .val (.int p1), .val (.ref b71), .val (.int (4 : Int32)), .val (.int (p1 &&& (2147483647 : Int32))), .val (.long ((p1 &&& (2147483647 : Int32)).toInt64)), .second, .val (.long ((((p1 &&& (2147483647 : Int32)).toInt64) * (((p1 &&& (2147483647 : Int32)).toInt64) + (1 : Int64))) / (2 : Int64))), .second] [(.ref w_5)])) _
          refine XS.iload X98.here hx rfl (hb hby at_150) rfl ?_
          show Steps p.tables e below (T98.setTop (mkF m 152 #[.val (.int p0), .val (.int p1), .val (.ref b71), .val (.int (4 : Int32)), .val (.int (p1 &&& (2147483647 : Int32))), .val (.long ((p1 &&& (2147483647 : Int32)).toInt64)), .second, .val (.long ((((p1 &&& (2147483647 : Int32)).toInt64) * (((p1 &&& (2147483647 : Int32)).toInt64) + (1 : Int64))) / (2 : Int64))), .second] [(.int (p1 &&& (2147483647 : Int32))), (.ref w_5)])) _
          refine st141.trans ?_
          show Steps p.tables e below (T141.setTop (mkF m 155 #[.val (.int p0), .val (.int p1), .val (.ref b71), .val (.int (4 : Int32)), .val (.int (p1 &&& (2147483647 : Int32))), .val (.long ((p1 &&& (2147483647 : Int32)).toInt64)), .second, .val (.long ((((p1 &&& (2147483647 : Int32)).toInt64) * (((p1 &&& (2147483647 : Int32)).toInt64) + (1 : Int64))) / (2 : Int64))), .second] [(.long ((((((p1 &&& (2147483647 : Int32)).toInt64) * (((p1 &&& (2147483647 : Int32)) - (1 : Int32)).toInt64)) / (2 : Int64)) + ((p1 &&& (2147483647 : Int32)).toInt64)) + (0 : Int64)))])) _
          refine XS.lload X141.here hx rfl (hb hby at_155) rfl ?_
          show Steps p.tables e below (T141.setTop (mkF m 157 #[.val (.int p0), .val (.int p1), .val (.ref b71), .val (.int (4 : Int32)), .val (.int (p1 &&& (2147483647 : Int32))), .val (.long ((p1 &&& (2147483647 : Int32)).toInt64)), .second, .val (.long ((((p1 &&& (2147483647 : Int32)).toInt64) * (((p1 &&& (2147483647 : Int32)).toInt64) + (1 : Int64))) / (2 : Int64))), .second] [(.long ((((p1 &&& (2147483647 : Int32)).toInt64) * (((p1 &&& (2147483647 : Int32)).toInt64) + (1 : Int64))) / (2 : Int64))), (.long ((((((p1 &&& (2147483647 : Int32)).toInt64) * (((p1 &&& (2147483647 : Int32)) - (1 : Int32)).toInt64)) / (2 : Int64)) + ((p1 &&& (2147483647 : Int32)).toInt64)) + (0 : Int64)))])) _
          refine XS.lcmp X141.here hx rfl (hb hby at_157) rfl ?_
          show Steps p.tables e below (T141.setTop (mkF m 158 #[.val (.int p0), .val (.int p1), .val (.ref b71), .val (.int (4 : Int32)), .val (.int (p1 &&& (2147483647 : Int32))), .val (.long ((p1 &&& (2147483647 : Int32)).toInt64)), .second, .val (.long ((((p1 &&& (2147483647 : Int32)).toInt64) * (((p1 &&& (2147483647 : Int32)).toInt64) + (1 : Int64))) / (2 : Int64))), .second] [(.int (lcmpW ((((((p1 &&& (2147483647 : Int32)).toInt64) * (((p1 &&& (2147483647 : Int32)) - (1 : Int32)).toInt64)) / (2 : Int64)) + ((p1 &&& (2147483647 : Int32)).toInt64)) + (0 : Int64)) ((((p1 &&& (2147483647 : Int32)).toInt64) * (((p1 &&& (2147483647 : Int32)).toInt64) + (1 : Int64))) / (2 : Int64))))])) _
          exact kt
        by_cases hc143 : (lcmpW ((((((p1 &&& (2147483647 : Int32)).toInt64) * (((p1 &&& (2147483647 : Int32)) - (1 : Int32)).toInt64)) / (2 : Int64)) + ((p1 &&& (2147483647 : Int32)).toInt64)) + (0 : Int64)) ((((p1 &&& (2147483647 : Int32)).toInt64) * (((p1 &&& (2147483647 : Int32)).toInt64) + (1 : Int64))) / (2 : Int64))) = (0 : Int32)
        · obtain ⟨fs, hr, hrun, hended, hW, hsame⟩ := X141.leave (v := some (.int (1 : Int32))) (fun h => by rw [Bd.returns] at h; cases h)
          refine ⟨_, _, pre142 _ ?_, hrun, hended, _, _, rfl, ?_, ⟨_, rfl⟩, hW, hsame.mono (by decide) (by decide)⟩
          · show Steps p.tables e below (T141.setTop (mkF m 158 #[.val (.int p0), .val (.int p1), .val (.ref b71), .val (.int (4 : Int32)), .val (.int (p1 &&& (2147483647 : Int32))), .val (.long ((p1 &&& (2147483647 : Int32)).toInt64)), .second, .val (.long ((((p1 &&& (2147483647 : Int32)).toInt64) * (((p1 &&& (2147483647 : Int32)).toInt64) + (1 : Int64))) / (2 : Int64))), .second] [(.int (lcmpW ((((((p1 &&& (2147483647 : Int32)).toInt64) * (((p1 &&& (2147483647 : Int32)) - (1 : Int32)).toInt64)) / (2 : Int64)) + ((p1 &&& (2147483647 : Int32)).toInt64)) + (0 : Int64)) ((((p1 &&& (2147483647 : Int32)).toInt64) * (((p1 &&& (2147483647 : Int32)).toInt64) + (1 : Int64))) / (2 : Int64))))])) _
            refine XS.ifNo X141.here hx rfl (hb hby at_158) rfl ((if0 _ _).trans (teq hc143).2) ?_
            show Steps p.tables e below (T141.setTop (mkF m 161 #[.val (.int p0), .val (.int p1), .val (.ref b71), .val (.int (4 : Int32)), .val (.int (p1 &&& (2147483647 : Int32))), .val (.long ((p1 &&& (2147483647 : Int32)).toInt64)), .second, .val (.long ((((p1 &&& (2147483647 : Int32)).toInt64) * (((p1 &&& (2147483647 : Int32)).toInt64) + (1 : Int64))) / (2 : Int64))), .second] [])) _
            refine XS.iconst X141.here hx rfl (hb hby at_161) ?_
            show Steps p.tables e below (T141.setTop (mkF m 162 #[.val (.int p0), .val (.int p1), .val (.ref b71), .val (.int (4 : Int32)), .val (.int (p1 &&& (2147483647 : Int32))), .val (.long ((p1 &&& (2147483647 : Int32)).toInt64)), .second, .val (.long ((((p1 &&& (2147483647 : Int32)).toInt64) * (((p1 &&& (2147483647 : Int32)).toInt64) + (1 : Int64))) / (2 : Int64))), .second] [(.int (1 : Int32))])) _
            refine XS.goto X141.here hx rfl (pc0 := 162) (pc' := 166) rfl (hb hby at_162) (by decide) (by decide) ?_
            show Steps p.tables e below (T141.setTop (mkF m 166 #[.val (.int p0), .val (.int p1), .val (.ref b71), .val (.int (4 : Int32)), .val (.int (p1 &&& (2147483647 : Int32))), .val (.long ((p1 &&& (2147483647 : Int32)).toInt64)), .second, .val (.long ((((p1 &&& (2147483647 : Int32)).toInt64) * (((p1 &&& (2147483647 : Int32)).toInt64) + (1 : Int64))) / (2 : Int64))), .second] [(.int (1 : Int32))])) _
            exact retN X141 hx (t := .boolean) Bd.returns (by simp) (hb hby at_166) hr
          · show Q0 Z w_1 w_2 w_3 w_4 w_5 w_6 w_7 w_8 w_9 p0 p1 h0 n0 _ T141.heap _
            rw [e141]
            exact ⟨by unfold sp0; rw [if_neg hc100, if_neg hc129, if_pos hc137, if_pos hc143], N141, trivial⟩
        · obtain ⟨fs, hr, hrun, hended, hW, hsame⟩ := X141.leave (v := some (.int (0 : Int32))) (fun h => by rw [Bd.returns] at h; cases h)
          refine ⟨_, _, pre142 _ ?_, hrun, hended, _, _, rfl, ?_, ⟨_, rfl⟩, hW, hsame.mono (by decide) (by decide)⟩
          · show Steps p.tables e below (T141.setTop (mkF m 158 #[.val (.int p0), .val (.int p1), .val (.ref b71), .val (.int (4 : Int32)), .val (.int (p1 &&& (2147483647 : Int32))), .val (.long ((p1 &&& (2147483647 : Int32)).toInt64)), .second, .val (.long ((((p1 &&& (2147483647 : Int32)).toInt64) * (((p1 &&& (2147483647 : Int32)).toInt64) + (1 : Int64))) / (2 : Int64))), .second] [(.int (lcmpW ((((((p1 &&& (2147483647 : Int32)).toInt64) * (((p1 &&& (2147483647 : Int32)) - (1 : Int32)).toInt64)) / (2 : Int64)) + ((p1 &&& (2147483647 : Int32)).toInt64)) + (0 : Int64)) ((((p1 &&& (2147483647 : Int32)).toInt64) * (((p1 &&& (2147483647 : Int32)).toInt64) + (1 : Int64))) / (2 : Int64))))])) _
            refine XS.ifYes X141.here hx rfl (pc0 := 158) (pc' := 165) rfl (hb hby at_158) rfl ((if0 _ _).trans (feq hc143).2) (by decide) (by decide) ?_
            show Steps p.tables e below (T141.setTop (mkF m 165 #[.val (.int p0), .val (.int p1), .val (.ref b71), .val (.int (4 : Int32)), .val (.int (p1 &&& (2147483647 : Int32))), .val (.long ((p1 &&& (2147483647 : Int32)).toInt64)), .second, .val (.long ((((p1 &&& (2147483647 : Int32)).toInt64) * (((p1 &&& (2147483647 : Int32)).toInt64) + (1 : Int64))) / (2 : Int64))), .second] [])) _
            refine XS.iconst X141.here hx rfl (hb hby at_165) ?_
            show Steps p.tables e below (T141.setTop (mkF m 166 #[.val (.int p0), .val (.int p1), .val (.ref b71), .val (.int (4 : Int32)), .val (.int (p1 &&& (2147483647 : Int32))), .val (.long ((p1 &&& (2147483647 : Int32)).toInt64)), .second, .val (.long ((((p1 &&& (2147483647 : Int32)).toInt64) * (((p1 &&& (2147483647 : Int32)).toInt64) + (1 : Int64))) / (2 : Int64))), .second] [(.int (0 : Int32))])) _
            exact retN X141 hx (t := .boolean) Bd.returns (by simp) (hb hby at_166) hr
          · show Q0 Z w_1 w_2 w_3 w_4 w_5 w_6 w_7 w_8 w_9 p0 p1 h0 n0 _ T141.heap _
            rw [e141]
            exact ⟨by unfold sp0; rw [if_neg hc100, if_neg hc129, if_pos hc137, if_neg hc143], N141, trivial⟩
      · have pre144 : ∀ t, Steps p.tables e below (T98.setTop (mkF m 109 #[.val (.int p0), .val (.int p1), .val (.ref b71), .val (.int ((p0 &&& (2147483647 : Int32)) % (9 : Int32))), .val (.int (p1 &&& (2147483647 : Int32))), .val (.long ((p1 &&& (2147483647 : Int32)).toInt64)), .second, .unset, .unset] [(.int (7 : Int32)), (.int ((p0 &&& (2147483647 : Int32)) % (9 : Int32)))])) t → Steps p.tables e below (s₁.setTop (entryFrame m #[(.int p0), (.int p1)] maxLocals)) t := fun t kt => by
          refine pre136 t ?_
          show Steps p.tables e below (T98.setTop (mkF m 103 #[.val (.int p0), .val (.int p1), .val (.ref b71), .val (.int ((p0 &&& (2147483647 : Int32)) % (9 : Int32))), .val (.int (p1 &&& (2147483647 : Int32))), .val (.long ((p1 &&& (2147483647 : Int32)).toInt64)), .second, .unset, .unset] [(.int (4 : Int32)), (.int ((p0 &&& (2147483647 : Int32)) % (9 : Int32)))])) _
          refine XS.icmpNo X98.here hx rfl (hb hby at_103) rfl (feq hc137).1 ?_
          show Steps p.tables e below (T98.setTop (mkF m 106 #[.val (.int p0), .val (.int p1), .val (.ref b71), .val (.int ((p0 &&& (2147483647 : Int32)) % (9 : Int32))), .val (.int (p1 &&& (2147483647 : Int32))), .val (.long ((p1 &&& (2147483647 : Int32)).toInt64)), .second, .unset, .unset] [])) _
          refine XS.iloadN X98.here hx rfl (hb hby at_106) rfl ?_
          show Steps p.tables e below (T98.setTop (mkF m 107 #[.val (.int p0), .val (.int p1), .val (.ref b71), .val (.int ((p0 &&& (2147483647 : Int32)) % (9 : Int32))), .val (.int (p1 &&& (2147483647 : Int32))), .val (.long ((p1 &&& (2147483647 : Int32)).toInt64)), .second, .unset, .unset] [(.int ((p0 &&& (2147483647 : Int32)) % (9 : Int32)))])) _
          refine XS.bipush X98.here hx rfl (hb hby at_107) ?_
          show Steps p.tables e below (T98.setTop (mkF m 109 #[.val (.int p0), .val (.int p1), .val (.ref b71), .val (.int ((p0 &&& (2147483647 : Int32)) % (9 : Int32))), .val (.int (p1 &&& (2147483647 : Int32))), .val (.long ((p1 &&& (2147483647 : Int32)).toInt64)), .second, .unset, .unset] [(.int (7 : Int32)), (.int ((p0 &&& (2147483647 : Int32)) % (9 : Int32)))])) _
          exact kt
        by_cases hc145 : ((p0 &&& (2147483647 : Int32)) % (9 : Int32)) = (7 : Int32)
        · have pre146 : ∀ t, Steps p.tables e below (T98.setTop (mkF m 149 #[.val (.int p0), .val (.int p1), .val (.ref b71), .val (.int ((p0 &&& (2147483647 : Int32)) % (9 : Int32))), .val (.int (p1 &&& (2147483647 : Int32))), .val (.long ((p1 &&& (2147483647 : Int32)).toInt64)), .second, .val (.long ((((p1 &&& (2147483647 : Int32)).toInt64) * (((p1 &&& (2147483647 : Int32)).toInt64) + (1 : Int64))) / (2 : Int64))), .second] [(.int ((p0 &&& (2147483647 : Int32)) % (9 : Int32))), (.ref b71)])) t → Steps p.tables e below (s₁.setTop (entryFrame m #[(.int p0), (.int p1)] maxLocals)) t := fun t kt => by
            refine pre144 t ?_
            show Steps p.tables e below (T98.setTop (mkF m 109 #[.val (.int p0), .val (.int p1), .val (.ref b71), .val (.int ((p0 &&& (2147483647 : Int32)) % (9 : Int32))), .val (.int (p1 &&& (2147483647 : Int32))), .val (.long ((p1 &&& (2147483647 : Int32)).toInt64)), .second, .unset, .unset] [(.int (7 : Int32)), (.int ((p0 &&& (2147483647 : Int32)) % (9 : Int32)))])) _
            refine XS.icmpYes X98.here hx rfl (pc0 := 109) (pc' := 118) rfl (hb hby at_109) rfl (teq hc145).1 (by decide) (by decide) ?_
            show Steps p.tables e below (T98.setTop (mkF m 118 #[.val (.int p0), .val (.int p1), .val (.ref b71), .val (.int ((p0 &&& (2147483647 : Int32)) % (9 : Int32))), .val (.int (p1 &&& (2147483647 : Int32))), .val (.long ((p1 &&& (2147483647 : Int32)).toInt64)), .second, .unset, .unset] [])) _
            refine XS.lload X98.here hx rfl (hb hby at_118) rfl ?_
            show Steps p.tables e below (T98.setTop (mkF m 120 #[.val (.int p0), .val (.int p1), .val (.ref b71), .val (.int ((p0 &&& (2147483647 : Int32)) % (9 : Int32))), .val (.int (p1 &&& (2147483647 : Int32))), .val (.long ((p1 &&& (2147483647 : Int32)).toInt64)), .second, .unset, .unset] [(.long ((p1 &&& (2147483647 : Int32)).toInt64))])) _
            refine XS.lload X98.here hx rfl (hb hby at_120) rfl ?_
            show Steps p.tables e below (T98.setTop (mkF m 122 #[.val (.int p0), .val (.int p1), .val (.ref b71), .val (.int ((p0 &&& (2147483647 : Int32)) % (9 : Int32))), .val (.int (p1 &&& (2147483647 : Int32))), .val (.long ((p1 &&& (2147483647 : Int32)).toInt64)), .second, .unset, .unset] [(.long ((p1 &&& (2147483647 : Int32)).toInt64)), (.long ((p1 &&& (2147483647 : Int32)).toInt64))])) _
            refine XS.lconst X98.here hx rfl (hb hby at_122) ?_
            show Steps p.tables e below (T98.setTop (mkF m 123 #[.val (.int p0), .val (.int p1), .val (.ref b71), .val (.int ((p0 &&& (2147483647 : Int32)) % (9 : Int32))), .val (.int (p1 &&& (2147483647 : Int32))), .val (.long ((p1 &&& (2147483647 : Int32)).toInt64)), .second, .unset, .unset] [(.long (1 : Int64)), (.long ((p1 &&& (2147483647 : Int32)).toInt64)), (.long ((p1 &&& (2147483647 : Int32)).toInt64))])) _
            refine XS.ladd X98.here hx rfl (hb hby at_123) rfl ?_
            show Steps p.tables e below (T98.setTop (mkF m 124 #[.val (.int p0), .val (.int p1), .val (.ref b71), .val (.int ((p0 &&& (2147483647 : Int32)) % (9 : Int32))), .val (.int (p1 &&& (2147483647 : Int32))), .val (.long ((p1 &&& (2147483647 : Int32)).toInt64)), .second, .unset, .unset] [(.long (((p1 &&& (2147483647 : Int32)).toInt64) + (1 : Int64))), (.long ((p1 &&& (2147483647 : Int32)).toInt64))])) _
            refine XS.lmul X98.here hx rfl (hb hby at_124) rfl ?_
            show Steps p.tables e below (T98.setTop (mkF m 125 #[.val (.int p0), .val (.int p1), .val (.ref b71), .val (.int ((p0 &&& (2147483647 : Int32)) % (9 : Int32))), .val (.int (p1 &&& (2147483647 : Int32))), .val (.long ((p1 &&& (2147483647 : Int32)).toInt64)), .second, .unset, .unset] [(.long (((p1 &&& (2147483647 : Int32)).toInt64) * (((p1 &&& (2147483647 : Int32)).toInt64) + (1 : Int64))))])) _
            refine X98.ldc2Long hx hown (mvT hZ (hw _ (tk 35 rfl))) (g := (mkF m 125 #[.val (.int p0), .val (.int p1), .val (.ref b71), .val (.int ((p0 &&& (2147483647 : Int32)) % (9 : Int32))), .val (.int (p1 &&& (2147483647 : Int32))), .val (.long ((p1 &&& (2147483647 : Int32)).toInt64)), .second, .unset, .unset] [(.long (((p1 &&& (2147483647 : Int32)).toInt64) * (((p1 &&& (2147483647 : Int32)).toInt64) + (1 : Int64))))])) rfl (hb hby at_125) _ ?_
            show Steps p.tables e below (T98.setTop (mkF m 128 #[.val (.int p0), .val (.int p1), .val (.ref b71), .val (.int ((p0 &&& (2147483647 : Int32)) % (9 : Int32))), .val (.int (p1 &&& (2147483647 : Int32))), .val (.long ((p1 &&& (2147483647 : Int32)).toInt64)), .second, .unset, .unset] [(.long (2 : Int64)), (.long (((p1 &&& (2147483647 : Int32)).toInt64) * (((p1 &&& (2147483647 : Int32)).toInt64) + (1 : Int64))))])) _
            refine XS.ldiv X98.here hx rfl (hb hby at_128) rfl (by decide : ¬ ((2 : Int64) = (0 : Int64))) ?_
            show Steps p.tables e below (T98.setTop (mkF m 129 #[.val (.int p0), .val (.int p1), .val (.ref b71), .val (.int ((p0 &&& (2147483647 : Int32)) % (9 : Int32))), .val (.int (p1 &&& (2147483647 : Int32))), .val (.long ((p1 &&& (2147483647 : Int32)).toInt64)), .second, .unset, .unset] [(.long ((((p1 &&& (2147483647 : Int32)).toInt64) * (((p1 &&& (2147483647 : Int32)).toInt64) + (1 : Int64))) / (2 : Int64)))])) _
            refine XS.lstore X98.here hx rfl (hb hby at_129) rfl (l' := #[.val (.int p0), .val (.int p1), .val (.ref b71), .val (.int ((p0 &&& (2147483647 : Int32)) % (9 : Int32))), .val (.int (p1 &&& (2147483647 : Int32))), .val (.long ((p1 &&& (2147483647 : Int32)).toInt64)), .second, .val (.long ((((p1 &&& (2147483647 : Int32)).toInt64) * (((p1 &&& (2147483647 : Int32)).toInt64) + (1 : Int64))) / (2 : Int64))), .second]) rfl ?_
            show Steps p.tables e below (T98.setTop (mkF m 131 #[.val (.int p0), .val (.int p1), .val (.ref b71), .val (.int ((p0 &&& (2147483647 : Int32)) % (9 : Int32))), .val (.int (p1 &&& (2147483647 : Int32))), .val (.long ((p1 &&& (2147483647 : Int32)).toInt64)), .second, .val (.long ((((p1 &&& (2147483647 : Int32)).toInt64) * (((p1 &&& (2147483647 : Int32)).toInt64) + (1 : Int64))) / (2 : Int64))), .second] [])) _
            refine XS.goto X98.here hx rfl (pc0 := 131) (pc' := 147) rfl (hb hby at_131) (by decide) (by decide) ?_
            show Steps p.tables e below (T98.setTop (mkF m 147 #[.val (.int p0), .val (.int p1), .val (.ref b71), .val (.int ((p0 &&& (2147483647 : Int32)) % (9 : Int32))), .val (.int (p1 &&& (2147483647 : Int32))), .val (.long ((p1 &&& (2147483647 : Int32)).toInt64)), .second, .val (.long ((((p1 &&& (2147483647 : Int32)).toInt64) * (((p1 &&& (2147483647 : Int32)).toInt64) + (1 : Int64))) / (2 : Int64))), .second] [])) _
            refine XS.aloadN X98.here hx rfl (hb hby at_147) rfl rfl ?_
            show Steps p.tables e below (T98.setTop (mkF m 148 #[.val (.int p0), .val (.int p1), .val (.ref b71), .val (.int ((p0 &&& (2147483647 : Int32)) % (9 : Int32))), .val (.int (p1 &&& (2147483647 : Int32))), .val (.long ((p1 &&& (2147483647 : Int32)).toInt64)), .second, .val (.long ((((p1 &&& (2147483647 : Int32)).toInt64) * (((p1 &&& (2147483647 : Int32)).toInt64) + (1 : Int64))) / (2 : Int64))), .second] [(.ref b71)])) _
            refine XS.iloadN X98.here hx rfl (hb hby at_148) rfl ?_
            show Steps p.tables e below (T98.setTop (mkF m 149 #[.val (.int p0), .val (.int p1), .val (.ref b71), .val (.int ((p0 &&& (2147483647 : Int32)) % (9 : Int32))), .val (.int (p1 &&& (2147483647 : Int32))), .val (.long ((p1 &&& (2147483647 : Int32)).toInt64)), .second, .val (.long ((((p1 &&& (2147483647 : Int32)).toInt64) * (((p1 &&& (2147483647 : Int32)).toInt64) + (1 : Int64))) / (2 : Int64))), .second] [(.int ((p0 &&& (2147483647 : Int32)) % (9 : Int32))), (.ref b71)])) _
            exact kt
          have pre147 : ∀ t, Steps p.tables e below (T98.setTop (mkF m 149 #[.val (.int p0), .val (.int p1), .val (.ref b71), .val (.int (7 : Int32)), .val (.int (p1 &&& (2147483647 : Int32))), .val (.long ((p1 &&& (2147483647 : Int32)).toInt64)), .second, .val (.long ((((p1 &&& (2147483647 : Int32)).toInt64) * (((p1 &&& (2147483647 : Int32)).toInt64) + (1 : Int64))) / (2 : Int64))), .second] [(.int (7 : Int32)), (.ref b71)])) t → Steps p.tables e below (s₁.setTop (entryFrame m #[(.int p0), (.int p1)] maxLocals)) t := fun t kt => pre146 t (by rw [(by rw [hc145] <;> decide : ((p0 &&& (2147483647 : Int32)) % (9 : Int32)) = (7 : Int32))]; exact kt)
          obtain ⟨cl148, Ar148, qa148, Sa148, Ma148, Ha148, Ga148⟩ := id V_b71_98
          have hin148 : ¬ ((7 : Int32) < 0 ∨ cl148.slots.size ≤ ((7 : Int32)).toNatClampNeg) := by  exact inb_of Sa148 ⟨by decide, by decide⟩
          have hat148 : cl148.slots[((7 : Int32)).toNatClampNeg]? = some (.ref w_8) := Has.at Ha148 hin148 (by rfl)
          obtain ⟨cq149, kq149, q149a, q149b, q149c⟩ := isOf hZ e98 (E_8.ext O98.2)
          obtain ⟨_, _, ⟨T149, L149, k149, n149⟩, -, X149, ⟨Lc149, hQ149, l149, y149, z149⟩, st149⟩ := X98.virtualBack hx (y := Y0) (z := Y0) hown (mvT hZ (hw _ (tk 23 rfl))) (mvT hZ (hw _ (tk 24 rfl))) (notFace_of_selects (args := #[]) (mvT hZ (hw _ (tk 26 rfl)))) (mvT hZ (hw _ (tk 26 rfl))) (mvT hZ (hw _ (tk 25 rfl))) (by decide) (backOf (W := 0) (rm1 l Z a0 hw [] w_1 w_2 w_3 w_4 w_5 w_6 w_7 w_8 w_9 hS0 w_8 (p1 &&& (2147483647 : Int32)) (1 : Int32) (1 : Int32) (0 : Int32) h98 n0 O98 (F_8_belowDiagonal.ext O98.2) (F_8_diagonal.ext O98.2) (F_8_aboveDiagonal.ext O98.2)) hZ (hw _ (tk 27 rfl)) (hw _ (tk 3 rfl)) (by decide) (by decide)) q149a q149c (g := (mkF m 152 #[.val (.int p0), .val (.int p1), .val (.ref b71), .val (.int (7 : Int32)), .val (.int (p1 &&& (2147483647 : Int32))), .val (.long ((p1 &&& (2147483647 : Int32)).toInt64)), .second, .val (.long ((((p1 &&& (2147483647 : Int32)).toInt64) * (((p1 &&& (2147483647 : Int32)).toInt64) + (1 : Int64))) / (2 : Int64))), .second] [(.int (p1 &&& (2147483647 : Int32))), (.ref w_8)])) rfl (by rw [hml]; rfl) (Steps.refl _) (argsL := [(.int (p1 &&& (2147483647 : Int32)))]) (rest := []) (lenOf pd_0 rfl) rfl (by show 2 * 0 + _ ≤ _; exact Nat.le_of_eq rfl) (hb hby at_152) (fun _ _ => ⟨rfl, e98, (by decide : 1 + 0 ≤ _), (by decide : 9 + 0 ≤ _)⟩)
          dsimp only [Pt.U, Pt.locs, Pt.cells, Pt.slots] at X149 l149 y149 z149 st149 hQ149
          subst l149 y149 z149
          obtain ⟨rv149, N149q, e149⟩ := hQ149
          rw [show sp1 (p1 &&& (2147483647 : Int32)) (1 : Int32) (1 : Int32) (0 : Int32) = ((((((p1 &&& (2147483647 : Int32)).toInt64) * (((p1 &&& (2147483647 : Int32)) - (1 : Int32)).toInt64)) / (2 : Int64)) + ((p1 &&& (2147483647 : Int32)).toInt64)) + (0 : Int64)) from by unfold sp1; rw [if_neg (by decide : ¬ ((1 : Int32) = (0 : Int32))), if_neg (by decide : ¬ ((1 : Int32) = (0 : Int32))), if_pos (by decide : ((0 : Int32) = (0 : Int32)))]] at rv149
          subst rv149
          have N149 := Fr.app N98 N149q
          have pre150 : ∀ t, Steps p.tables e below (T149.setTop (mkF m 158 #[.val (.int p0), .val (.int p1), .val (.ref b71), .val (.int (7 : Int32)), .val (.int (p1 &&& (2147483647 : Int32))), .val (.long ((p1 &&& (2147483647 : Int32)).toInt64)), .second, .val (.long ((((p1 &&& (2147483647 : Int32)).toInt64) * (((p1 &&& (2147483647 : Int32)).toInt64) + (1 : Int64))) / (2 : Int64))), .second] [(.int (lcmpW ((((((p1 &&& (2147483647 : Int32)).toInt64) * (((p1 &&& (2147483647 : Int32)) - (1 : Int32)).toInt64)) / (2 : Int64)) + ((p1 &&& (2147483647 : Int32)).toInt64)) + (0 : Int64)) ((((p1 &&& (2147483647 : Int32)).toInt64) * (((p1 &&& (2147483647 : Int32)).toInt64) + (1 : Int64))) / (2 : Int64))))])) t → Steps p.tables e below (s₁.setTop (entryFrame m #[(.int p0), (.int p1)] maxLocals)) t := fun t kt => by
            refine pre147 t ?_
            show Steps p.tables e below (T98.setTop (mkF m 149 #[.val (.int p0), .val (.int p1), .val (.ref b71), .val (.int (7 : Int32)), .val (.int (p1 &&& (2147483647 : Int32))), .val (.long ((p1 &&& (2147483647 : Int32)).toInt64)), .second, .val (.long ((((p1 &&& (2147483647 : Int32)).toInt64) * (((p1 &&& (2147483647 : Int32)).toInt64) + (1 : Int64))) / (2 : Int64))), .second] [(.int (7 : Int32)), (.ref b71)])) _
            refine X98.aaload hx (j := (7 : Int32)) (v := (.ref w_8)) (by rw [e98]; exact Ar148.1) (State.isArrayOf_alike hZ.alike Ar148.2.1) rfl Ar148.2.2 hin148 hat148 (g := (mkF m 149 #[.val (.int p0), .val (.int p1), .val (.ref b71), .val (.int (7 : Int32)), .val (.int (p1 &&& (2147483647 : Int32))), .val (.long ((p1 &&& (2147483647 : Int32)).toInt64)), .second, .val (.long ((((p1 &&& (2147483647 : Int32)).toInt64) * (((p1 &&& (2147483647 : Int32)).toInt64) + (1 : Int64))) / (2 : Int64))), .second] [(.int (7 : Int32)), (.ref b71)])) rfl rfl (hb hby at_149) _ ?_
            show Steps p.tables e below (T98.setTop (mkF m 150 #[.val (.int p0), .val (.int p1), .val (.ref b71), .val (.int (7 : Int32)), .val (.int (p1 &&& (2147483647 : Int32))), .val (.long ((p1 &&& (2147483647 : Int32)).toInt64)), .second, .val (.long ((((p1 &&& (2147483647 : Int32)).toInt64) * (((p1 &&& (2147483647 : Int32)).toInt64) + (1 : Int64))) / (2 : Int64))), .second] [(.ref w_8)])) _
            refine XS.iload X98.here hx rfl (hb hby at_150) rfl ?_
            show Steps p.tables e below (T98.setTop (mkF m 152 #[.val (.int p0), .val (.int p1), .val (.ref b71), .val (.int (7 : Int32)), .val (.int (p1 &&& (2147483647 : Int32))), .val (.long ((p1 &&& (2147483647 : Int32)).toInt64)), .second, .val (.long ((((p1 &&& (2147483647 : Int32)).toInt64) * (((p1 &&& (2147483647 : Int32)).toInt64) + (1 : Int64))) / (2 : Int64))), .second] [(.int (p1 &&& (2147483647 : Int32))), (.ref w_8)])) _
            refine st149.trans ?_
            show Steps p.tables e below (T149.setTop (mkF m 155 #[.val (.int p0), .val (.int p1), .val (.ref b71), .val (.int (7 : Int32)), .val (.int (p1 &&& (2147483647 : Int32))), .val (.long ((p1 &&& (2147483647 : Int32)).toInt64)), .second, .val (.long ((((p1 &&& (2147483647 : Int32)).toInt64) * (((p1 &&& (2147483647 : Int32)).toInt64) + (1 : Int64))) / (2 : Int64))), .second] [(.long ((((((p1 &&& (2147483647 : Int32)).toInt64) * (((p1 &&& (2147483647 : Int32)) - (1 : Int32)).toInt64)) / (2 : Int64)) + ((p1 &&& (2147483647 : Int32)).toInt64)) + (0 : Int64)))])) _
            refine XS.lload X149.here hx rfl (hb hby at_155) rfl ?_
            show Steps p.tables e below (T149.setTop (mkF m 157 #[.val (.int p0), .val (.int p1), .val (.ref b71), .val (.int (7 : Int32)), .val (.int (p1 &&& (2147483647 : Int32))), .val (.long ((p1 &&& (2147483647 : Int32)).toInt64)), .second, .val (.long ((((p1 &&& (2147483647 : Int32)).toInt64) * (((p1 &&& (2147483647 : Int32)).toInt64) + (1 : Int64))) / (2 : Int64))), .second] [(.long ((((p1 &&& (2147483647 : Int32)).toInt64) * (((p1 &&& (2147483647 : Int32)).toInt64) + (1 : Int64))) / (2 : Int64))), (.long ((((((p1 &&& (2147483647 : Int32)).toInt64) * (((p1 &&& (2147483647 : Int32)) - (1 : Int32)).toInt64)) / (2 : Int64)) + ((p1 &&& (2147483647 : Int32)).toInt64)) + (0 : Int64)))])) _
            refine XS.lcmp X149.here hx rfl (hb hby at_157) rfl ?_
            show Steps p.tables e below (T149.setTop (mkF m 158 #[.val (.int p0), .val (.int p1), .val (.ref b71), .val (.int (7 : Int32)), .val (.int (p1 &&& (2147483647 : Int32))), .val (.long ((p1 &&& (2147483647 : Int32)).toInt64)), .second, .val (.long ((((p1 &&& (2147483647 : Int32)).toInt64) * (((p1 &&& (2147483647 : Int32)).toInt64) + (1 : Int64))) / (2 : Int64))), .second] [(.int (lcmpW ((((((p1 &&& (2147483647 : Int32)).toInt64) * (((p1 &&& (2147483647 : Int32)) - (1 : Int32)).toInt64)) / (2 : Int64)) + ((p1 &&& (2147483647 : Int32)).toInt64)) + (0 : Int64)) ((((p1 &&& (2147483647 : Int32)).toInt64) * (((p1 &&& (2147483647 : Int32)).toInt64) + (1 : Int64))) / (2 : Int64))))])) _
            exact kt
          by_cases hc151 : (lcmpW ((((((p1 &&& (2147483647 : Int32)).toInt64) * (((p1 &&& (2147483647 : Int32)) - (1 : Int32)).toInt64)) / (2 : Int64)) + ((p1 &&& (2147483647 : Int32)).toInt64)) + (0 : Int64)) ((((p1 &&& (2147483647 : Int32)).toInt64) * (((p1 &&& (2147483647 : Int32)).toInt64) + (1 : Int64))) / (2 : Int64))) = (0 : Int32)
          · obtain ⟨fs, hr, hrun, hended, hW, hsame⟩ := X149.leave (v := some (.int (1 : Int32))) (fun h => by rw [Bd.returns] at h; cases h)
            refine ⟨_, _, pre150 _ ?_, hrun, hended, _, _, rfl, ?_, ⟨_, rfl⟩, hW, hsame.mono (by decide) (by decide)⟩
            · show Steps p.tables e below (T149.setTop (mkF m 158 #[.val (.int p0), .val (.int p1), .val (.ref b71), .val (.int (7 : Int32)), .val (.int (p1 &&& (2147483647 : Int32))), .val (.long ((p1 &&& (2147483647 : Int32)).toInt64)), .second, .val (.long ((((p1 &&& (2147483647 : Int32)).toInt64) * (((p1 &&& (2147483647 : Int32)).toInt64) + (1 : Int64))) / (2 : Int64))), .second] [(.int (lcmpW ((((((p1 &&& (2147483647 : Int32)).toInt64) * (((p1 &&& (2147483647 : Int32)) - (1 : Int32)).toInt64)) / (2 : Int64)) + ((p1 &&& (2147483647 : Int32)).toInt64)) + (0 : Int64)) ((((p1 &&& (2147483647 : Int32)).toInt64) * (((p1 &&& (2147483647 : Int32)).toInt64) + (1 : Int64))) / (2 : Int64))))])) _
              refine XS.ifNo X149.here hx rfl (hb hby at_158) rfl ((if0 _ _).trans (teq hc151).2) ?_
              show Steps p.tables e below (T149.setTop (mkF m 161 #[.val (.int p0), .val (.int p1), .val (.ref b71), .val (.int (7 : Int32)), .val (.int (p1 &&& (2147483647 : Int32))), .val (.long ((p1 &&& (2147483647 : Int32)).toInt64)), .second, .val (.long ((((p1 &&& (2147483647 : Int32)).toInt64) * (((p1 &&& (2147483647 : Int32)).toInt64) + (1 : Int64))) / (2 : Int64))), .second] [])) _
              refine XS.iconst X149.here hx rfl (hb hby at_161) ?_
              show Steps p.tables e below (T149.setTop (mkF m 162 #[.val (.int p0), .val (.int p1), .val (.ref b71), .val (.int (7 : Int32)), .val (.int (p1 &&& (2147483647 : Int32))), .val (.long ((p1 &&& (2147483647 : Int32)).toInt64)), .second, .val (.long ((((p1 &&& (2147483647 : Int32)).toInt64) * (((p1 &&& (2147483647 : Int32)).toInt64) + (1 : Int64))) / (2 : Int64))), .second] [(.int (1 : Int32))])) _
              refine XS.goto X149.here hx rfl (pc0 := 162) (pc' := 166) rfl (hb hby at_162) (by decide) (by decide) ?_
              show Steps p.tables e below (T149.setTop (mkF m 166 #[.val (.int p0), .val (.int p1), .val (.ref b71), .val (.int (7 : Int32)), .val (.int (p1 &&& (2147483647 : Int32))), .val (.long ((p1 &&& (2147483647 : Int32)).toInt64)), .second, .val (.long ((((p1 &&& (2147483647 : Int32)).toInt64) * (((p1 &&& (2147483647 : Int32)).toInt64) + (1 : Int64))) / (2 : Int64))), .second] [(.int (1 : Int32))])) _
              exact retN X149 hx (t := .boolean) Bd.returns (by simp) (hb hby at_166) hr
            · show Q0 Z w_1 w_2 w_3 w_4 w_5 w_6 w_7 w_8 w_9 p0 p1 h0 n0 _ T149.heap _
              rw [e149]
              exact ⟨by unfold sp0; rw [if_neg hc100, if_neg hc129, if_neg hc137, if_pos hc145, if_pos hc151], N149, trivial⟩
          · obtain ⟨fs, hr, hrun, hended, hW, hsame⟩ := X149.leave (v := some (.int (0 : Int32))) (fun h => by rw [Bd.returns] at h; cases h)
            refine ⟨_, _, pre150 _ ?_, hrun, hended, _, _, rfl, ?_, ⟨_, rfl⟩, hW, hsame.mono (by decide) (by decide)⟩
            · show Steps p.tables e below (T149.setTop (mkF m 158 #[.val (.int p0), .val (.int p1), .val (.ref b71), .val (.int (7 : Int32)), .val (.int (p1 &&& (2147483647 : Int32))), .val (.long ((p1 &&& (2147483647 : Int32)).toInt64)), .second, .val (.long ((((p1 &&& (2147483647 : Int32)).toInt64) * (((p1 &&& (2147483647 : Int32)).toInt64) + (1 : Int64))) / (2 : Int64))), .second] [(.int (lcmpW ((((((p1 &&& (2147483647 : Int32)).toInt64) * (((p1 &&& (2147483647 : Int32)) - (1 : Int32)).toInt64)) / (2 : Int64)) + ((p1 &&& (2147483647 : Int32)).toInt64)) + (0 : Int64)) ((((p1 &&& (2147483647 : Int32)).toInt64) * (((p1 &&& (2147483647 : Int32)).toInt64) + (1 : Int64))) / (2 : Int64))))])) _
              refine XS.ifYes X149.here hx rfl (pc0 := 158) (pc' := 165) rfl (hb hby at_158) rfl ((if0 _ _).trans (feq hc151).2) (by decide) (by decide) ?_
              show Steps p.tables e below (T149.setTop (mkF m 165 #[.val (.int p0), .val (.int p1), .val (.ref b71), .val (.int (7 : Int32)), .val (.int (p1 &&& (2147483647 : Int32))), .val (.long ((p1 &&& (2147483647 : Int32)).toInt64)), .second, .val (.long ((((p1 &&& (2147483647 : Int32)).toInt64) * (((p1 &&& (2147483647 : Int32)).toInt64) + (1 : Int64))) / (2 : Int64))), .second] [])) _
              refine XS.iconst X149.here hx rfl (hb hby at_165) ?_
              show Steps p.tables e below (T149.setTop (mkF m 166 #[.val (.int p0), .val (.int p1), .val (.ref b71), .val (.int (7 : Int32)), .val (.int (p1 &&& (2147483647 : Int32))), .val (.long ((p1 &&& (2147483647 : Int32)).toInt64)), .second, .val (.long ((((p1 &&& (2147483647 : Int32)).toInt64) * (((p1 &&& (2147483647 : Int32)).toInt64) + (1 : Int64))) / (2 : Int64))), .second] [(.int (0 : Int32))])) _
              exact retN X149 hx (t := .boolean) Bd.returns (by simp) (hb hby at_166) hr
            · show Q0 Z w_1 w_2 w_3 w_4 w_5 w_6 w_7 w_8 w_9 p0 p1 h0 n0 _ T149.heap _
              rw [e149]
              exact ⟨by unfold sp0; rw [if_neg hc100, if_neg hc129, if_neg hc137, if_pos hc145, if_neg hc151], N149, trivial⟩
        · have pre152 : ∀ t, Steps p.tables e below (T98.setTop (mkF m 115 #[.val (.int p0), .val (.int p1), .val (.ref b71), .val (.int ((p0 &&& (2147483647 : Int32)) % (9 : Int32))), .val (.int (p1 &&& (2147483647 : Int32))), .val (.long ((p1 &&& (2147483647 : Int32)).toInt64)), .second, .unset, .unset] [(.int (8 : Int32)), (.int ((p0 &&& (2147483647 : Int32)) % (9 : Int32)))])) t → Steps p.tables e below (s₁.setTop (entryFrame m #[(.int p0), (.int p1)] maxLocals)) t := fun t kt => by
            refine pre144 t ?_
            show Steps p.tables e below (T98.setTop (mkF m 109 #[.val (.int p0), .val (.int p1), .val (.ref b71), .val (.int ((p0 &&& (2147483647 : Int32)) % (9 : Int32))), .val (.int (p1 &&& (2147483647 : Int32))), .val (.long ((p1 &&& (2147483647 : Int32)).toInt64)), .second, .unset, .unset] [(.int (7 : Int32)), (.int ((p0 &&& (2147483647 : Int32)) % (9 : Int32)))])) _
            refine XS.icmpNo X98.here hx rfl (hb hby at_109) rfl (feq hc145).1 ?_
            show Steps p.tables e below (T98.setTop (mkF m 112 #[.val (.int p0), .val (.int p1), .val (.ref b71), .val (.int ((p0 &&& (2147483647 : Int32)) % (9 : Int32))), .val (.int (p1 &&& (2147483647 : Int32))), .val (.long ((p1 &&& (2147483647 : Int32)).toInt64)), .second, .unset, .unset] [])) _
            refine XS.iloadN X98.here hx rfl (hb hby at_112) rfl ?_
            show Steps p.tables e below (T98.setTop (mkF m 113 #[.val (.int p0), .val (.int p1), .val (.ref b71), .val (.int ((p0 &&& (2147483647 : Int32)) % (9 : Int32))), .val (.int (p1 &&& (2147483647 : Int32))), .val (.long ((p1 &&& (2147483647 : Int32)).toInt64)), .second, .unset, .unset] [(.int ((p0 &&& (2147483647 : Int32)) % (9 : Int32)))])) _
            refine XS.bipush X98.here hx rfl (hb hby at_113) ?_
            show Steps p.tables e below (T98.setTop (mkF m 115 #[.val (.int p0), .val (.int p1), .val (.ref b71), .val (.int ((p0 &&& (2147483647 : Int32)) % (9 : Int32))), .val (.int (p1 &&& (2147483647 : Int32))), .val (.long ((p1 &&& (2147483647 : Int32)).toInt64)), .second, .unset, .unset] [(.int (8 : Int32)), (.int ((p0 &&& (2147483647 : Int32)) % (9 : Int32)))])) _
            exact kt
          by_cases hc153 : ((p0 &&& (2147483647 : Int32)) % (9 : Int32)) = (8 : Int32)
          · have pre154 : ∀ t, Steps p.tables e below (T98.setTop (mkF m 149 #[.val (.int p0), .val (.int p1), .val (.ref b71), .val (.int ((p0 &&& (2147483647 : Int32)) % (9 : Int32))), .val (.int (p1 &&& (2147483647 : Int32))), .val (.long ((p1 &&& (2147483647 : Int32)).toInt64)), .second, .val (.long ((((p1 &&& (2147483647 : Int32)).toInt64) * (((p1 &&& (2147483647 : Int32)).toInt64) + (1 : Int64))) / (2 : Int64))), .second] [(.int ((p0 &&& (2147483647 : Int32)) % (9 : Int32))), (.ref b71)])) t → Steps p.tables e below (s₁.setTop (entryFrame m #[(.int p0), (.int p1)] maxLocals)) t := fun t kt => by
              refine pre152 t ?_
              show Steps p.tables e below (T98.setTop (mkF m 115 #[.val (.int p0), .val (.int p1), .val (.ref b71), .val (.int ((p0 &&& (2147483647 : Int32)) % (9 : Int32))), .val (.int (p1 &&& (2147483647 : Int32))), .val (.long ((p1 &&& (2147483647 : Int32)).toInt64)), .second, .unset, .unset] [(.int (8 : Int32)), (.int ((p0 &&& (2147483647 : Int32)) % (9 : Int32)))])) _
              refine XS.icmpNo X98.here hx rfl (hb hby at_115) rfl (teq hc153).2 ?_
              show Steps p.tables e below (T98.setTop (mkF m 118 #[.val (.int p0), .val (.int p1), .val (.ref b71), .val (.int ((p0 &&& (2147483647 : Int32)) % (9 : Int32))), .val (.int (p1 &&& (2147483647 : Int32))), .val (.long ((p1 &&& (2147483647 : Int32)).toInt64)), .second, .unset, .unset] [])) _
              refine XS.lload X98.here hx rfl (hb hby at_118) rfl ?_
              show Steps p.tables e below (T98.setTop (mkF m 120 #[.val (.int p0), .val (.int p1), .val (.ref b71), .val (.int ((p0 &&& (2147483647 : Int32)) % (9 : Int32))), .val (.int (p1 &&& (2147483647 : Int32))), .val (.long ((p1 &&& (2147483647 : Int32)).toInt64)), .second, .unset, .unset] [(.long ((p1 &&& (2147483647 : Int32)).toInt64))])) _
              refine XS.lload X98.here hx rfl (hb hby at_120) rfl ?_
              show Steps p.tables e below (T98.setTop (mkF m 122 #[.val (.int p0), .val (.int p1), .val (.ref b71), .val (.int ((p0 &&& (2147483647 : Int32)) % (9 : Int32))), .val (.int (p1 &&& (2147483647 : Int32))), .val (.long ((p1 &&& (2147483647 : Int32)).toInt64)), .second, .unset, .unset] [(.long ((p1 &&& (2147483647 : Int32)).toInt64)), (.long ((p1 &&& (2147483647 : Int32)).toInt64))])) _
              refine XS.lconst X98.here hx rfl (hb hby at_122) ?_
              show Steps p.tables e below (T98.setTop (mkF m 123 #[.val (.int p0), .val (.int p1), .val (.ref b71), .val (.int ((p0 &&& (2147483647 : Int32)) % (9 : Int32))), .val (.int (p1 &&& (2147483647 : Int32))), .val (.long ((p1 &&& (2147483647 : Int32)).toInt64)), .second, .unset, .unset] [(.long (1 : Int64)), (.long ((p1 &&& (2147483647 : Int32)).toInt64)), (.long ((p1 &&& (2147483647 : Int32)).toInt64))])) _
              refine XS.ladd X98.here hx rfl (hb hby at_123) rfl ?_
              show Steps p.tables e below (T98.setTop (mkF m 124 #[.val (.int p0), .val (.int p1), .val (.ref b71), .val (.int ((p0 &&& (2147483647 : Int32)) % (9 : Int32))), .val (.int (p1 &&& (2147483647 : Int32))), .val (.long ((p1 &&& (2147483647 : Int32)).toInt64)), .second, .unset, .unset] [(.long (((p1 &&& (2147483647 : Int32)).toInt64) + (1 : Int64))), (.long ((p1 &&& (2147483647 : Int32)).toInt64))])) _
              refine XS.lmul X98.here hx rfl (hb hby at_124) rfl ?_
              show Steps p.tables e below (T98.setTop (mkF m 125 #[.val (.int p0), .val (.int p1), .val (.ref b71), .val (.int ((p0 &&& (2147483647 : Int32)) % (9 : Int32))), .val (.int (p1 &&& (2147483647 : Int32))), .val (.long ((p1 &&& (2147483647 : Int32)).toInt64)), .second, .unset, .unset] [(.long (((p1 &&& (2147483647 : Int32)).toInt64) * (((p1 &&& (2147483647 : Int32)).toInt64) + (1 : Int64))))])) _
              refine X98.ldc2Long hx hown (mvT hZ (hw _ (tk 35 rfl))) (g := (mkF m 125 #[.val (.int p0), .val (.int p1), .val (.ref b71), .val (.int ((p0 &&& (2147483647 : Int32)) % (9 : Int32))), .val (.int (p1 &&& (2147483647 : Int32))), .val (.long ((p1 &&& (2147483647 : Int32)).toInt64)), .second, .unset, .unset] [(.long (((p1 &&& (2147483647 : Int32)).toInt64) * (((p1 &&& (2147483647 : Int32)).toInt64) + (1 : Int64))))])) rfl (hb hby at_125) _ ?_
              show Steps p.tables e below (T98.setTop (mkF m 128 #[.val (.int p0), .val (.int p1), .val (.ref b71), .val (.int ((p0 &&& (2147483647 : Int32)) % (9 : Int32))), .val (.int (p1 &&& (2147483647 : Int32))), .val (.long ((p1 &&& (2147483647 : Int32)).toInt64)), .second, .unset, .unset] [(.long (2 : Int64)), (.long (((p1 &&& (2147483647 : Int32)).toInt64) * (((p1 &&& (2147483647 : Int32)).toInt64) + (1 : Int64))))])) _
              refine XS.ldiv X98.here hx rfl (hb hby at_128) rfl (by decide : ¬ ((2 : Int64) = (0 : Int64))) ?_
              show Steps p.tables e below (T98.setTop (mkF m 129 #[.val (.int p0), .val (.int p1), .val (.ref b71), .val (.int ((p0 &&& (2147483647 : Int32)) % (9 : Int32))), .val (.int (p1 &&& (2147483647 : Int32))), .val (.long ((p1 &&& (2147483647 : Int32)).toInt64)), .second, .unset, .unset] [(.long ((((p1 &&& (2147483647 : Int32)).toInt64) * (((p1 &&& (2147483647 : Int32)).toInt64) + (1 : Int64))) / (2 : Int64)))])) _
              refine XS.lstore X98.here hx rfl (hb hby at_129) rfl (l' := #[.val (.int p0), .val (.int p1), .val (.ref b71), .val (.int ((p0 &&& (2147483647 : Int32)) % (9 : Int32))), .val (.int (p1 &&& (2147483647 : Int32))), .val (.long ((p1 &&& (2147483647 : Int32)).toInt64)), .second, .val (.long ((((p1 &&& (2147483647 : Int32)).toInt64) * (((p1 &&& (2147483647 : Int32)).toInt64) + (1 : Int64))) / (2 : Int64))), .second]) rfl ?_
              show Steps p.tables e below (T98.setTop (mkF m 131 #[.val (.int p0), .val (.int p1), .val (.ref b71), .val (.int ((p0 &&& (2147483647 : Int32)) % (9 : Int32))), .val (.int (p1 &&& (2147483647 : Int32))), .val (.long ((p1 &&& (2147483647 : Int32)).toInt64)), .second, .val (.long ((((p1 &&& (2147483647 : Int32)).toInt64) * (((p1 &&& (2147483647 : Int32)).toInt64) + (1 : Int64))) / (2 : Int64))), .second] [])) _
              refine XS.goto X98.here hx rfl (pc0 := 131) (pc' := 147) rfl (hb hby at_131) (by decide) (by decide) ?_
              show Steps p.tables e below (T98.setTop (mkF m 147 #[.val (.int p0), .val (.int p1), .val (.ref b71), .val (.int ((p0 &&& (2147483647 : Int32)) % (9 : Int32))), .val (.int (p1 &&& (2147483647 : Int32))), .val (.long ((p1 &&& (2147483647 : Int32)).toInt64)), .second, .val (.long ((((p1 &&& (2147483647 : Int32)).toInt64) * (((p1 &&& (2147483647 : Int32)).toInt64) + (1 : Int64))) / (2 : Int64))), .second] [])) _
              refine XS.aloadN X98.here hx rfl (hb hby at_147) rfl rfl ?_
              show Steps p.tables e below (T98.setTop (mkF m 148 #[.val (.int p0), .val (.int p1), .val (.ref b71), .val (.int ((p0 &&& (2147483647 : Int32)) % (9 : Int32))), .val (.int (p1 &&& (2147483647 : Int32))), .val (.long ((p1 &&& (2147483647 : Int32)).toInt64)), .second, .val (.long ((((p1 &&& (2147483647 : Int32)).toInt64) * (((p1 &&& (2147483647 : Int32)).toInt64) + (1 : Int64))) / (2 : Int64))), .second] [(.ref b71)])) _
              refine XS.iloadN X98.here hx rfl (hb hby at_148) rfl ?_
              show Steps p.tables e below (T98.setTop (mkF m 149 #[.val (.int p0), .val (.int p1), .val (.ref b71), .val (.int ((p0 &&& (2147483647 : Int32)) % (9 : Int32))), .val (.int (p1 &&& (2147483647 : Int32))), .val (.long ((p1 &&& (2147483647 : Int32)).toInt64)), .second, .val (.long ((((p1 &&& (2147483647 : Int32)).toInt64) * (((p1 &&& (2147483647 : Int32)).toInt64) + (1 : Int64))) / (2 : Int64))), .second] [(.int ((p0 &&& (2147483647 : Int32)) % (9 : Int32))), (.ref b71)])) _
              exact kt
            have pre155 : ∀ t, Steps p.tables e below (T98.setTop (mkF m 149 #[.val (.int p0), .val (.int p1), .val (.ref b71), .val (.int (8 : Int32)), .val (.int (p1 &&& (2147483647 : Int32))), .val (.long ((p1 &&& (2147483647 : Int32)).toInt64)), .second, .val (.long ((((p1 &&& (2147483647 : Int32)).toInt64) * (((p1 &&& (2147483647 : Int32)).toInt64) + (1 : Int64))) / (2 : Int64))), .second] [(.int (8 : Int32)), (.ref b71)])) t → Steps p.tables e below (s₁.setTop (entryFrame m #[(.int p0), (.int p1)] maxLocals)) t := fun t kt => pre154 t (by rw [(by rw [hc153] <;> decide : ((p0 &&& (2147483647 : Int32)) % (9 : Int32)) = (8 : Int32))]; exact kt)
            obtain ⟨cl156, Ar156, qa156, Sa156, Ma156, Ha156, Ga156⟩ := id V_b71_98
            have hin156 : ¬ ((8 : Int32) < 0 ∨ cl156.slots.size ≤ ((8 : Int32)).toNatClampNeg) := by  exact inb_of Sa156 ⟨by decide, by decide⟩
            have hat156 : cl156.slots[((8 : Int32)).toNatClampNeg]? = some (.ref w_9) := Has.at Ha156 hin156 (by rfl)
            obtain ⟨cq157, kq157, q157a, q157b, q157c⟩ := isOf hZ e98 (E_9.ext O98.2)
            obtain ⟨_, _, ⟨T157, L157, k157, n157⟩, -, X157, ⟨Lc157, hQ157, l157, y157, z157⟩, st157⟩ := X98.virtualBack hx (y := Y0) (z := Y0) hown (mvT hZ (hw _ (tk 23 rfl))) (mvT hZ (hw _ (tk 24 rfl))) (notFace_of_selects (args := #[]) (mvT hZ (hw _ (tk 26 rfl)))) (mvT hZ (hw _ (tk 26 rfl))) (mvT hZ (hw _ (tk 25 rfl))) (by decide) (backOf (W := 0) (rm1 l Z a0 hw [] w_1 w_2 w_3 w_4 w_5 w_6 w_7 w_8 w_9 hS0 w_9 (p1 &&& (2147483647 : Int32)) (0 : Int32) (1 : Int32) (1 : Int32) h98 n0 O98 (F_9_belowDiagonal.ext O98.2) (F_9_diagonal.ext O98.2) (F_9_aboveDiagonal.ext O98.2)) hZ (hw _ (tk 27 rfl)) (hw _ (tk 3 rfl)) (by decide) (by decide)) q157a q157c (g := (mkF m 152 #[.val (.int p0), .val (.int p1), .val (.ref b71), .val (.int (8 : Int32)), .val (.int (p1 &&& (2147483647 : Int32))), .val (.long ((p1 &&& (2147483647 : Int32)).toInt64)), .second, .val (.long ((((p1 &&& (2147483647 : Int32)).toInt64) * (((p1 &&& (2147483647 : Int32)).toInt64) + (1 : Int64))) / (2 : Int64))), .second] [(.int (p1 &&& (2147483647 : Int32))), (.ref w_9)])) rfl (by rw [hml]; rfl) (Steps.refl _) (argsL := [(.int (p1 &&& (2147483647 : Int32)))]) (rest := []) (lenOf pd_0 rfl) rfl (by show 2 * 0 + _ ≤ _; exact Nat.le_of_eq rfl) (hb hby at_152) (fun _ _ => ⟨rfl, e98, (by decide : 1 + 0 ≤ _), (by decide : 9 + 0 ≤ _)⟩)
            dsimp only [Pt.U, Pt.locs, Pt.cells, Pt.slots] at X157 l157 y157 z157 st157 hQ157
            subst l157 y157 z157
            obtain ⟨rv157, N157q, e157⟩ := hQ157
            rw [show sp1 (p1 &&& (2147483647 : Int32)) (0 : Int32) (1 : Int32) (1 : Int32) = (((0 : Int64) + ((p1 &&& (2147483647 : Int32)).toInt64)) + ((((p1 &&& (2147483647 : Int32)).toInt64) * (((p1 &&& (2147483647 : Int32)) - (1 : Int32)).toInt64)) / (2 : Int64))) from by unfold sp1; rw [if_pos (by decide : ((0 : Int32) = (0 : Int32))), if_neg (by decide : ¬ ((1 : Int32) = (0 : Int32))), if_neg (by decide : ¬ ((1 : Int32) = (0 : Int32)))]] at rv157
            subst rv157
            have N157 := Fr.app N98 N157q
            have pre158 : ∀ t, Steps p.tables e below (T157.setTop (mkF m 158 #[.val (.int p0), .val (.int p1), .val (.ref b71), .val (.int (8 : Int32)), .val (.int (p1 &&& (2147483647 : Int32))), .val (.long ((p1 &&& (2147483647 : Int32)).toInt64)), .second, .val (.long ((((p1 &&& (2147483647 : Int32)).toInt64) * (((p1 &&& (2147483647 : Int32)).toInt64) + (1 : Int64))) / (2 : Int64))), .second] [(.int (lcmpW (((0 : Int64) + ((p1 &&& (2147483647 : Int32)).toInt64)) + ((((p1 &&& (2147483647 : Int32)).toInt64) * (((p1 &&& (2147483647 : Int32)) - (1 : Int32)).toInt64)) / (2 : Int64))) ((((p1 &&& (2147483647 : Int32)).toInt64) * (((p1 &&& (2147483647 : Int32)).toInt64) + (1 : Int64))) / (2 : Int64))))])) t → Steps p.tables e below (s₁.setTop (entryFrame m #[(.int p0), (.int p1)] maxLocals)) t := fun t kt => by
              refine pre155 t ?_
              show Steps p.tables e below (T98.setTop (mkF m 149 #[.val (.int p0), .val (.int p1), .val (.ref b71), .val (.int (8 : Int32)), .val (.int (p1 &&& (2147483647 : Int32))), .val (.long ((p1 &&& (2147483647 : Int32)).toInt64)), .second, .val (.long ((((p1 &&& (2147483647 : Int32)).toInt64) * (((p1 &&& (2147483647 : Int32)).toInt64) + (1 : Int64))) / (2 : Int64))), .second] [(.int (8 : Int32)), (.ref b71)])) _
              refine X98.aaload hx (j := (8 : Int32)) (v := (.ref w_9)) (by rw [e98]; exact Ar156.1) (State.isArrayOf_alike hZ.alike Ar156.2.1) rfl Ar156.2.2 hin156 hat156 (g := (mkF m 149 #[.val (.int p0), .val (.int p1), .val (.ref b71), .val (.int (8 : Int32)), .val (.int (p1 &&& (2147483647 : Int32))), .val (.long ((p1 &&& (2147483647 : Int32)).toInt64)), .second, .val (.long ((((p1 &&& (2147483647 : Int32)).toInt64) * (((p1 &&& (2147483647 : Int32)).toInt64) + (1 : Int64))) / (2 : Int64))), .second] [(.int (8 : Int32)), (.ref b71)])) rfl rfl (hb hby at_149) _ ?_
              show Steps p.tables e below (T98.setTop (mkF m 150 #[.val (.int p0), .val (.int p1), .val (.ref b71), .val (.int (8 : Int32)), .val (.int (p1 &&& (2147483647 : Int32))), .val (.long ((p1 &&& (2147483647 : Int32)).toInt64)), .second, .val (.long ((((p1 &&& (2147483647 : Int32)).toInt64) * (((p1 &&& (2147483647 : Int32)).toInt64) + (1 : Int64))) / (2 : Int64))), .second] [(.ref w_9)])) _
              refine XS.iload X98.here hx rfl (hb hby at_150) rfl ?_
              show Steps p.tables e below (T98.setTop (mkF m 152 #[.val (.int p0), .val (.int p1), .val (.ref b71), .val (.int (8 : Int32)), .val (.int (p1 &&& (2147483647 : Int32))), .val (.long ((p1 &&& (2147483647 : Int32)).toInt64)), .second, .val (.long ((((p1 &&& (2147483647 : Int32)).toInt64) * (((p1 &&& (2147483647 : Int32)).toInt64) + (1 : Int64))) / (2 : Int64))), .second] [(.int (p1 &&& (2147483647 : Int32))), (.ref w_9)])) _
              refine st157.trans ?_
              show Steps p.tables e below (T157.setTop (mkF m 155 #[.val (.int p0), .val (.int p1), .val (.ref b71), .val (.int (8 : Int32)), .val (.int (p1 &&& (2147483647 : Int32))), .val (.long ((p1 &&& (2147483647 : Int32)).toInt64)), .second, .val (.long ((((p1 &&& (2147483647 : Int32)).toInt64) * (((p1 &&& (2147483647 : Int32)).toInt64) + (1 : Int64))) / (2 : Int64))), .second] [(.long (((0 : Int64) + ((p1 &&& (2147483647 : Int32)).toInt64)) + ((((p1 &&& (2147483647 : Int32)).toInt64) * (((p1 &&& (2147483647 : Int32)) - (1 : Int32)).toInt64)) / (2 : Int64))))])) _
              refine XS.lload X157.here hx rfl (hb hby at_155) rfl ?_
              show Steps p.tables e below (T157.setTop (mkF m 157 #[.val (.int p0), .val (.int p1), .val (.ref b71), .val (.int (8 : Int32)), .val (.int (p1 &&& (2147483647 : Int32))), .val (.long ((p1 &&& (2147483647 : Int32)).toInt64)), .second, .val (.long ((((p1 &&& (2147483647 : Int32)).toInt64) * (((p1 &&& (2147483647 : Int32)).toInt64) + (1 : Int64))) / (2 : Int64))), .second] [(.long ((((p1 &&& (2147483647 : Int32)).toInt64) * (((p1 &&& (2147483647 : Int32)).toInt64) + (1 : Int64))) / (2 : Int64))), (.long (((0 : Int64) + ((p1 &&& (2147483647 : Int32)).toInt64)) + ((((p1 &&& (2147483647 : Int32)).toInt64) * (((p1 &&& (2147483647 : Int32)) - (1 : Int32)).toInt64)) / (2 : Int64))))])) _
              refine XS.lcmp X157.here hx rfl (hb hby at_157) rfl ?_
              show Steps p.tables e below (T157.setTop (mkF m 158 #[.val (.int p0), .val (.int p1), .val (.ref b71), .val (.int (8 : Int32)), .val (.int (p1 &&& (2147483647 : Int32))), .val (.long ((p1 &&& (2147483647 : Int32)).toInt64)), .second, .val (.long ((((p1 &&& (2147483647 : Int32)).toInt64) * (((p1 &&& (2147483647 : Int32)).toInt64) + (1 : Int64))) / (2 : Int64))), .second] [(.int (lcmpW (((0 : Int64) + ((p1 &&& (2147483647 : Int32)).toInt64)) + ((((p1 &&& (2147483647 : Int32)).toInt64) * (((p1 &&& (2147483647 : Int32)) - (1 : Int32)).toInt64)) / (2 : Int64))) ((((p1 &&& (2147483647 : Int32)).toInt64) * (((p1 &&& (2147483647 : Int32)).toInt64) + (1 : Int64))) / (2 : Int64))))])) _
              exact kt
            by_cases hc159 : (lcmpW (((0 : Int64) + ((p1 &&& (2147483647 : Int32)).toInt64)) + ((((p1 &&& (2147483647 : Int32)).toInt64) * (((p1 &&& (2147483647 : Int32)) - (1 : Int32)).toInt64)) / (2 : Int64))) ((((p1 &&& (2147483647 : Int32)).toInt64) * (((p1 &&& (2147483647 : Int32)).toInt64) + (1 : Int64))) / (2 : Int64))) = (0 : Int32)
            · obtain ⟨fs, hr, hrun, hended, hW, hsame⟩ := X157.leave (v := some (.int (1 : Int32))) (fun h => by rw [Bd.returns] at h; cases h)
              refine ⟨_, _, pre158 _ ?_, hrun, hended, _, _, rfl, ?_, ⟨_, rfl⟩, hW, hsame.mono (by decide) (by decide)⟩
              · show Steps p.tables e below (T157.setTop (mkF m 158 #[.val (.int p0), .val (.int p1), .val (.ref b71), .val (.int (8 : Int32)), .val (.int (p1 &&& (2147483647 : Int32))), .val (.long ((p1 &&& (2147483647 : Int32)).toInt64)), .second, .val (.long ((((p1 &&& (2147483647 : Int32)).toInt64) * (((p1 &&& (2147483647 : Int32)).toInt64) + (1 : Int64))) / (2 : Int64))), .second] [(.int (lcmpW (((0 : Int64) + ((p1 &&& (2147483647 : Int32)).toInt64)) + ((((p1 &&& (2147483647 : Int32)).toInt64) * (((p1 &&& (2147483647 : Int32)) - (1 : Int32)).toInt64)) / (2 : Int64))) ((((p1 &&& (2147483647 : Int32)).toInt64) * (((p1 &&& (2147483647 : Int32)).toInt64) + (1 : Int64))) / (2 : Int64))))])) _
                refine XS.ifNo X157.here hx rfl (hb hby at_158) rfl ((if0 _ _).trans (teq hc159).2) ?_
                show Steps p.tables e below (T157.setTop (mkF m 161 #[.val (.int p0), .val (.int p1), .val (.ref b71), .val (.int (8 : Int32)), .val (.int (p1 &&& (2147483647 : Int32))), .val (.long ((p1 &&& (2147483647 : Int32)).toInt64)), .second, .val (.long ((((p1 &&& (2147483647 : Int32)).toInt64) * (((p1 &&& (2147483647 : Int32)).toInt64) + (1 : Int64))) / (2 : Int64))), .second] [])) _
                refine XS.iconst X157.here hx rfl (hb hby at_161) ?_
                show Steps p.tables e below (T157.setTop (mkF m 162 #[.val (.int p0), .val (.int p1), .val (.ref b71), .val (.int (8 : Int32)), .val (.int (p1 &&& (2147483647 : Int32))), .val (.long ((p1 &&& (2147483647 : Int32)).toInt64)), .second, .val (.long ((((p1 &&& (2147483647 : Int32)).toInt64) * (((p1 &&& (2147483647 : Int32)).toInt64) + (1 : Int64))) / (2 : Int64))), .second] [(.int (1 : Int32))])) _
                refine XS.goto X157.here hx rfl (pc0 := 162) (pc' := 166) rfl (hb hby at_162) (by decide) (by decide) ?_
                show Steps p.tables e below (T157.setTop (mkF m 166 #[.val (.int p0), .val (.int p1), .val (.ref b71), .val (.int (8 : Int32)), .val (.int (p1 &&& (2147483647 : Int32))), .val (.long ((p1 &&& (2147483647 : Int32)).toInt64)), .second, .val (.long ((((p1 &&& (2147483647 : Int32)).toInt64) * (((p1 &&& (2147483647 : Int32)).toInt64) + (1 : Int64))) / (2 : Int64))), .second] [(.int (1 : Int32))])) _
                exact retN X157 hx (t := .boolean) Bd.returns (by simp) (hb hby at_166) hr
              · show Q0 Z w_1 w_2 w_3 w_4 w_5 w_6 w_7 w_8 w_9 p0 p1 h0 n0 _ T157.heap _
                rw [e157]
                exact ⟨by unfold sp0; rw [if_neg hc100, if_neg hc129, if_neg hc137, if_neg hc145, if_pos hc153, if_pos hc159], N157, trivial⟩
            · obtain ⟨fs, hr, hrun, hended, hW, hsame⟩ := X157.leave (v := some (.int (0 : Int32))) (fun h => by rw [Bd.returns] at h; cases h)
              refine ⟨_, _, pre158 _ ?_, hrun, hended, _, _, rfl, ?_, ⟨_, rfl⟩, hW, hsame.mono (by decide) (by decide)⟩
              · show Steps p.tables e below (T157.setTop (mkF m 158 #[.val (.int p0), .val (.int p1), .val (.ref b71), .val (.int (8 : Int32)), .val (.int (p1 &&& (2147483647 : Int32))), .val (.long ((p1 &&& (2147483647 : Int32)).toInt64)), .second, .val (.long ((((p1 &&& (2147483647 : Int32)).toInt64) * (((p1 &&& (2147483647 : Int32)).toInt64) + (1 : Int64))) / (2 : Int64))), .second] [(.int (lcmpW (((0 : Int64) + ((p1 &&& (2147483647 : Int32)).toInt64)) + ((((p1 &&& (2147483647 : Int32)).toInt64) * (((p1 &&& (2147483647 : Int32)) - (1 : Int32)).toInt64)) / (2 : Int64))) ((((p1 &&& (2147483647 : Int32)).toInt64) * (((p1 &&& (2147483647 : Int32)).toInt64) + (1 : Int64))) / (2 : Int64))))])) _
                refine XS.ifYes X157.here hx rfl (pc0 := 158) (pc' := 165) rfl (hb hby at_158) rfl ((if0 _ _).trans (feq hc159).2) (by decide) (by decide) ?_
                show Steps p.tables e below (T157.setTop (mkF m 165 #[.val (.int p0), .val (.int p1), .val (.ref b71), .val (.int (8 : Int32)), .val (.int (p1 &&& (2147483647 : Int32))), .val (.long ((p1 &&& (2147483647 : Int32)).toInt64)), .second, .val (.long ((((p1 &&& (2147483647 : Int32)).toInt64) * (((p1 &&& (2147483647 : Int32)).toInt64) + (1 : Int64))) / (2 : Int64))), .second] [])) _
                refine XS.iconst X157.here hx rfl (hb hby at_165) ?_
                show Steps p.tables e below (T157.setTop (mkF m 166 #[.val (.int p0), .val (.int p1), .val (.ref b71), .val (.int (8 : Int32)), .val (.int (p1 &&& (2147483647 : Int32))), .val (.long ((p1 &&& (2147483647 : Int32)).toInt64)), .second, .val (.long ((((p1 &&& (2147483647 : Int32)).toInt64) * (((p1 &&& (2147483647 : Int32)).toInt64) + (1 : Int64))) / (2 : Int64))), .second] [(.int (0 : Int32))])) _
                exact retN X157 hx (t := .boolean) Bd.returns (by simp) (hb hby at_166) hr
              · show Q0 Z w_1 w_2 w_3 w_4 w_5 w_6 w_7 w_8 w_9 p0 p1 h0 n0 _ T157.heap _
                rw [e157]
                exact ⟨by unfold sp0; rw [if_neg hc100, if_neg hc129, if_neg hc137, if_neg hc145, if_pos hc153, if_neg hc159], N157, trivial⟩
          · have pre160 : ∀ t, Steps p.tables e below (T98.setTop (mkF m 149 #[.val (.int p0), .val (.int p1), .val (.ref b71), .val (.int ((p0 &&& (2147483647 : Int32)) % (9 : Int32))), .val (.int (p1 &&& (2147483647 : Int32))), .val (.long ((p1 &&& (2147483647 : Int32)).toInt64)), .second, .val (.long ((((p1 &&& (2147483647 : Int32)).toInt64) * (((p1 &&& (2147483647 : Int32)).toInt64) - (1 : Int64))) / (2 : Int64))), .second] [(.int ((p0 &&& (2147483647 : Int32)) % (9 : Int32))), (.ref b71)])) t → Steps p.tables e below (s₁.setTop (entryFrame m #[(.int p0), (.int p1)] maxLocals)) t := fun t kt => by
              refine pre152 t ?_
              show Steps p.tables e below (T98.setTop (mkF m 115 #[.val (.int p0), .val (.int p1), .val (.ref b71), .val (.int ((p0 &&& (2147483647 : Int32)) % (9 : Int32))), .val (.int (p1 &&& (2147483647 : Int32))), .val (.long ((p1 &&& (2147483647 : Int32)).toInt64)), .second, .unset, .unset] [(.int (8 : Int32)), (.int ((p0 &&& (2147483647 : Int32)) % (9 : Int32)))])) _
              refine XS.icmpYes X98.here hx rfl (pc0 := 115) (pc' := 134) rfl (hb hby at_115) rfl (feq hc153).2 (by decide) (by decide) ?_
              show Steps p.tables e below (T98.setTop (mkF m 134 #[.val (.int p0), .val (.int p1), .val (.ref b71), .val (.int ((p0 &&& (2147483647 : Int32)) % (9 : Int32))), .val (.int (p1 &&& (2147483647 : Int32))), .val (.long ((p1 &&& (2147483647 : Int32)).toInt64)), .second, .unset, .unset] [])) _
              refine XS.lload X98.here hx rfl (hb hby at_134) rfl ?_
              show Steps p.tables e below (T98.setTop (mkF m 136 #[.val (.int p0), .val (.int p1), .val (.ref b71), .val (.int ((p0 &&& (2147483647 : Int32)) % (9 : Int32))), .val (.int (p1 &&& (2147483647 : Int32))), .val (.long ((p1 &&& (2147483647 : Int32)).toInt64)), .second, .unset, .unset] [(.long ((p1 &&& (2147483647 : Int32)).toInt64))])) _
              refine XS.lload X98.here hx rfl (hb hby at_136) rfl ?_
              show Steps p.tables e below (T98.setTop (mkF m 138 #[.val (.int p0), .val (.int p1), .val (.ref b71), .val (.int ((p0 &&& (2147483647 : Int32)) % (9 : Int32))), .val (.int (p1 &&& (2147483647 : Int32))), .val (.long ((p1 &&& (2147483647 : Int32)).toInt64)), .second, .unset, .unset] [(.long ((p1 &&& (2147483647 : Int32)).toInt64)), (.long ((p1 &&& (2147483647 : Int32)).toInt64))])) _
              refine XS.lconst X98.here hx rfl (hb hby at_138) ?_
              show Steps p.tables e below (T98.setTop (mkF m 139 #[.val (.int p0), .val (.int p1), .val (.ref b71), .val (.int ((p0 &&& (2147483647 : Int32)) % (9 : Int32))), .val (.int (p1 &&& (2147483647 : Int32))), .val (.long ((p1 &&& (2147483647 : Int32)).toInt64)), .second, .unset, .unset] [(.long (1 : Int64)), (.long ((p1 &&& (2147483647 : Int32)).toInt64)), (.long ((p1 &&& (2147483647 : Int32)).toInt64))])) _
              refine XS.lsub X98.here hx rfl (hb hby at_139) rfl ?_
              show Steps p.tables e below (T98.setTop (mkF m 140 #[.val (.int p0), .val (.int p1), .val (.ref b71), .val (.int ((p0 &&& (2147483647 : Int32)) % (9 : Int32))), .val (.int (p1 &&& (2147483647 : Int32))), .val (.long ((p1 &&& (2147483647 : Int32)).toInt64)), .second, .unset, .unset] [(.long (((p1 &&& (2147483647 : Int32)).toInt64) - (1 : Int64))), (.long ((p1 &&& (2147483647 : Int32)).toInt64))])) _
              refine XS.lmul X98.here hx rfl (hb hby at_140) rfl ?_
              show Steps p.tables e below (T98.setTop (mkF m 141 #[.val (.int p0), .val (.int p1), .val (.ref b71), .val (.int ((p0 &&& (2147483647 : Int32)) % (9 : Int32))), .val (.int (p1 &&& (2147483647 : Int32))), .val (.long ((p1 &&& (2147483647 : Int32)).toInt64)), .second, .unset, .unset] [(.long (((p1 &&& (2147483647 : Int32)).toInt64) * (((p1 &&& (2147483647 : Int32)).toInt64) - (1 : Int64))))])) _
              refine X98.ldc2Long hx hown (mvT hZ (hw _ (tk 35 rfl))) (g := (mkF m 141 #[.val (.int p0), .val (.int p1), .val (.ref b71), .val (.int ((p0 &&& (2147483647 : Int32)) % (9 : Int32))), .val (.int (p1 &&& (2147483647 : Int32))), .val (.long ((p1 &&& (2147483647 : Int32)).toInt64)), .second, .unset, .unset] [(.long (((p1 &&& (2147483647 : Int32)).toInt64) * (((p1 &&& (2147483647 : Int32)).toInt64) - (1 : Int64))))])) rfl (hb hby at_141) _ ?_
              show Steps p.tables e below (T98.setTop (mkF m 144 #[.val (.int p0), .val (.int p1), .val (.ref b71), .val (.int ((p0 &&& (2147483647 : Int32)) % (9 : Int32))), .val (.int (p1 &&& (2147483647 : Int32))), .val (.long ((p1 &&& (2147483647 : Int32)).toInt64)), .second, .unset, .unset] [(.long (2 : Int64)), (.long (((p1 &&& (2147483647 : Int32)).toInt64) * (((p1 &&& (2147483647 : Int32)).toInt64) - (1 : Int64))))])) _
              refine XS.ldiv X98.here hx rfl (hb hby at_144) rfl (by decide : ¬ ((2 : Int64) = (0 : Int64))) ?_
              show Steps p.tables e below (T98.setTop (mkF m 145 #[.val (.int p0), .val (.int p1), .val (.ref b71), .val (.int ((p0 &&& (2147483647 : Int32)) % (9 : Int32))), .val (.int (p1 &&& (2147483647 : Int32))), .val (.long ((p1 &&& (2147483647 : Int32)).toInt64)), .second, .unset, .unset] [(.long ((((p1 &&& (2147483647 : Int32)).toInt64) * (((p1 &&& (2147483647 : Int32)).toInt64) - (1 : Int64))) / (2 : Int64)))])) _
              refine XS.lstore X98.here hx rfl (hb hby at_145) rfl (l' := #[.val (.int p0), .val (.int p1), .val (.ref b71), .val (.int ((p0 &&& (2147483647 : Int32)) % (9 : Int32))), .val (.int (p1 &&& (2147483647 : Int32))), .val (.long ((p1 &&& (2147483647 : Int32)).toInt64)), .second, .val (.long ((((p1 &&& (2147483647 : Int32)).toInt64) * (((p1 &&& (2147483647 : Int32)).toInt64) - (1 : Int64))) / (2 : Int64))), .second]) rfl ?_
              show Steps p.tables e below (T98.setTop (mkF m 147 #[.val (.int p0), .val (.int p1), .val (.ref b71), .val (.int ((p0 &&& (2147483647 : Int32)) % (9 : Int32))), .val (.int (p1 &&& (2147483647 : Int32))), .val (.long ((p1 &&& (2147483647 : Int32)).toInt64)), .second, .val (.long ((((p1 &&& (2147483647 : Int32)).toInt64) * (((p1 &&& (2147483647 : Int32)).toInt64) - (1 : Int64))) / (2 : Int64))), .second] [])) _
              refine XS.aloadN X98.here hx rfl (hb hby at_147) rfl rfl ?_
              show Steps p.tables e below (T98.setTop (mkF m 148 #[.val (.int p0), .val (.int p1), .val (.ref b71), .val (.int ((p0 &&& (2147483647 : Int32)) % (9 : Int32))), .val (.int (p1 &&& (2147483647 : Int32))), .val (.long ((p1 &&& (2147483647 : Int32)).toInt64)), .second, .val (.long ((((p1 &&& (2147483647 : Int32)).toInt64) * (((p1 &&& (2147483647 : Int32)).toInt64) - (1 : Int64))) / (2 : Int64))), .second] [(.ref b71)])) _
              refine XS.iloadN X98.here hx rfl (hb hby at_148) rfl ?_
              show Steps p.tables e below (T98.setTop (mkF m 149 #[.val (.int p0), .val (.int p1), .val (.ref b71), .val (.int ((p0 &&& (2147483647 : Int32)) % (9 : Int32))), .val (.int (p1 &&& (2147483647 : Int32))), .val (.long ((p1 &&& (2147483647 : Int32)).toInt64)), .second, .val (.long ((((p1 &&& (2147483647 : Int32)).toInt64) * (((p1 &&& (2147483647 : Int32)).toInt64) - (1 : Int64))) / (2 : Int64))), .second] [(.int ((p0 &&& (2147483647 : Int32)) % (9 : Int32))), (.ref b71)])) _
              exact kt
            by_cases hc161 : ((p0 &&& (2147483647 : Int32)) % (9 : Int32)) = (1 : Int32)
            · obtain ⟨cl162, Ar162, qa162, Sa162, Ma162, Ha162, Ga162⟩ := id V_b71_98
              have hin162 : ¬ (((p0 &&& (2147483647 : Int32)) % (9 : Int32)) < 0 ∨ cl162.slots.size ≤ (((p0 &&& (2147483647 : Int32)) % (9 : Int32))).toNatClampNeg) := by rw [hc161]; exact inb_of Sa162 ⟨by decide, by decide⟩
              have hat162 : cl162.slots[(((p0 &&& (2147483647 : Int32)) % (9 : Int32))).toNatClampNeg]? = some (.ref w_2) := Has.at Ha162 hin162 (by rw [hc161]; rfl)
              obtain ⟨cq163, kq163, q163a, q163b, q163c⟩ := isOf hZ e98 (E_2.ext O98.2)
              obtain ⟨_, _, ⟨T163, L163, k163, n163⟩, -, X163, ⟨Lc163, hQ163, l163, y163, z163⟩, st163⟩ := X98.virtualBack hx (y := Y0) (z := Y0) hown (mvT hZ (hw _ (tk 23 rfl))) (mvT hZ (hw _ (tk 24 rfl))) (notFace_of_selects (args := #[]) (mvT hZ (hw _ (tk 26 rfl)))) (mvT hZ (hw _ (tk 26 rfl))) (mvT hZ (hw _ (tk 25 rfl))) (by decide) (backOf (W := 0) (rm1 l Z a0 hw [] w_1 w_2 w_3 w_4 w_5 w_6 w_7 w_8 w_9 hS0 w_2 (p1 &&& (2147483647 : Int32)) (0 : Int32) (0 : Int32) (1 : Int32) h98 n0 O98 (F_2_belowDiagonal.ext O98.2) (F_2_diagonal.ext O98.2) (F_2_aboveDiagonal.ext O98.2)) hZ (hw _ (tk 27 rfl)) (hw _ (tk 3 rfl)) (by decide) (by decide)) q163a q163c (g := (mkF m 152 #[.val (.int p0), .val (.int p1), .val (.ref b71), .val (.int ((p0 &&& (2147483647 : Int32)) % (9 : Int32))), .val (.int (p1 &&& (2147483647 : Int32))), .val (.long ((p1 &&& (2147483647 : Int32)).toInt64)), .second, .val (.long ((((p1 &&& (2147483647 : Int32)).toInt64) * (((p1 &&& (2147483647 : Int32)).toInt64) - (1 : Int64))) / (2 : Int64))), .second] [(.int (p1 &&& (2147483647 : Int32))), (.ref w_2)])) rfl (by rw [hml]; rfl) (Steps.refl _) (argsL := [(.int (p1 &&& (2147483647 : Int32)))]) (rest := []) (lenOf pd_0 rfl) rfl (by show 2 * 0 + _ ≤ _; exact Nat.le_of_eq rfl) (hb hby at_152) (fun _ _ => ⟨rfl, e98, (by decide : 1 + 0 ≤ _), (by decide : 9 + 0 ≤ _)⟩)
              dsimp only [Pt.U, Pt.locs, Pt.cells, Pt.slots] at X163 l163 y163 z163 st163 hQ163
              subst l163 y163 z163
              obtain ⟨rv163, N163q, e163⟩ := hQ163
              rw [show sp1 (p1 &&& (2147483647 : Int32)) (0 : Int32) (0 : Int32) (1 : Int32) = (((0 : Int64) + ((0 : Int32).toInt64)) + ((((p1 &&& (2147483647 : Int32)).toInt64) * (((p1 &&& (2147483647 : Int32)) - (1 : Int32)).toInt64)) / (2 : Int64))) from by unfold sp1; rw [if_pos (by decide : ((0 : Int32) = (0 : Int32))), if_pos (by decide : ((0 : Int32) = (0 : Int32))), if_neg (by decide : ¬ ((1 : Int32) = (0 : Int32)))]] at rv163
              subst rv163
              have N163 := Fr.app N98 N163q
              have pre164 : ∀ t, Steps p.tables e below (T163.setTop (mkF m 158 #[.val (.int p0), .val (.int p1), .val (.ref b71), .val (.int ((p0 &&& (2147483647 : Int32)) % (9 : Int32))), .val (.int (p1 &&& (2147483647 : Int32))), .val (.long ((p1 &&& (2147483647 : Int32)).toInt64)), .second, .val (.long ((((p1 &&& (2147483647 : Int32)).toInt64) * (((p1 &&& (2147483647 : Int32)).toInt64) - (1 : Int64))) / (2 : Int64))), .second] [(.int (lcmpW (((0 : Int64) + ((0 : Int32).toInt64)) + ((((p1 &&& (2147483647 : Int32)).toInt64) * (((p1 &&& (2147483647 : Int32)) - (1 : Int32)).toInt64)) / (2 : Int64))) ((((p1 &&& (2147483647 : Int32)).toInt64) * (((p1 &&& (2147483647 : Int32)).toInt64) - (1 : Int64))) / (2 : Int64))))])) t → Steps p.tables e below (s₁.setTop (entryFrame m #[(.int p0), (.int p1)] maxLocals)) t := fun t kt => by
                refine pre160 t ?_
                show Steps p.tables e below (T98.setTop (mkF m 149 #[.val (.int p0), .val (.int p1), .val (.ref b71), .val (.int ((p0 &&& (2147483647 : Int32)) % (9 : Int32))), .val (.int (p1 &&& (2147483647 : Int32))), .val (.long ((p1 &&& (2147483647 : Int32)).toInt64)), .second, .val (.long ((((p1 &&& (2147483647 : Int32)).toInt64) * (((p1 &&& (2147483647 : Int32)).toInt64) - (1 : Int64))) / (2 : Int64))), .second] [(.int ((p0 &&& (2147483647 : Int32)) % (9 : Int32))), (.ref b71)])) _
                refine X98.aaload hx (j := ((p0 &&& (2147483647 : Int32)) % (9 : Int32))) (v := (.ref w_2)) (by rw [e98]; exact Ar162.1) (State.isArrayOf_alike hZ.alike Ar162.2.1) rfl Ar162.2.2 hin162 hat162 (g := (mkF m 149 #[.val (.int p0), .val (.int p1), .val (.ref b71), .val (.int ((p0 &&& (2147483647 : Int32)) % (9 : Int32))), .val (.int (p1 &&& (2147483647 : Int32))), .val (.long ((p1 &&& (2147483647 : Int32)).toInt64)), .second, .val (.long ((((p1 &&& (2147483647 : Int32)).toInt64) * (((p1 &&& (2147483647 : Int32)).toInt64) - (1 : Int64))) / (2 : Int64))), .second] [(.int ((p0 &&& (2147483647 : Int32)) % (9 : Int32))), (.ref b71)])) rfl rfl (hb hby at_149) _ ?_
                show Steps p.tables e below (T98.setTop (mkF m 150 #[.val (.int p0), .val (.int p1), .val (.ref b71), .val (.int ((p0 &&& (2147483647 : Int32)) % (9 : Int32))), .val (.int (p1 &&& (2147483647 : Int32))), .val (.long ((p1 &&& (2147483647 : Int32)).toInt64)), .second, .val (.long ((((p1 &&& (2147483647 : Int32)).toInt64) * (((p1 &&& (2147483647 : Int32)).toInt64) - (1 : Int64))) / (2 : Int64))), .second] [(.ref w_2)])) _
                refine XS.iload X98.here hx rfl (hb hby at_150) rfl ?_
                show Steps p.tables e below (T98.setTop (mkF m 152 #[.val (.int p0), .val (.int p1), .val (.ref b71), .val (.int ((p0 &&& (2147483647 : Int32)) % (9 : Int32))), .val (.int (p1 &&& (2147483647 : Int32))), .val (.long ((p1 &&& (2147483647 : Int32)).toInt64)), .second, .val (.long ((((p1 &&& (2147483647 : Int32)).toInt64) * (((p1 &&& (2147483647 : Int32)).toInt64) - (1 : Int64))) / (2 : Int64))), .second] [(.int (p1 &&& (2147483647 : Int32))), (.ref w_2)])) _
                refine st163.trans ?_
                show Steps p.tables e below (T163.setTop (mkF m 155 #[.val (.int p0), .val (.int p1), .val (.ref b71), .val (.int ((p0 &&& (2147483647 : Int32)) % (9 : Int32))), .val (.int (p1 &&& (2147483647 : Int32))), .val (.long ((p1 &&& (2147483647 : Int32)).toInt64)), .second, .val (.long ((((p1 &&& (2147483647 : Int32)).toInt64) * (((p1 &&& (2147483647 : Int32)).toInt64) - (1 : Int64))) / (2 : Int64))), .second] [(.long (((0 : Int64) + ((0 : Int32).toInt64)) + ((((p1 &&& (2147483647 : Int32)).toInt64) * (((p1 &&& (2147483647 : Int32)) - (1 : Int32)).toInt64)) / (2 : Int64))))])) _
                refine XS.lload X163.here hx rfl (hb hby at_155) rfl ?_
                show Steps p.tables e below (T163.setTop (mkF m 157 #[.val (.int p0), .val (.int p1), .val (.ref b71), .val (.int ((p0 &&& (2147483647 : Int32)) % (9 : Int32))), .val (.int (p1 &&& (2147483647 : Int32))), .val (.long ((p1 &&& (2147483647 : Int32)).toInt64)), .second, .val (.long ((((p1 &&& (2147483647 : Int32)).toInt64) * (((p1 &&& (2147483647 : Int32)).toInt64) - (1 : Int64))) / (2 : Int64))), .second] [(.long ((((p1 &&& (2147483647 : Int32)).toInt64) * (((p1 &&& (2147483647 : Int32)).toInt64) - (1 : Int64))) / (2 : Int64))), (.long (((0 : Int64) + ((0 : Int32).toInt64)) + ((((p1 &&& (2147483647 : Int32)).toInt64) * (((p1 &&& (2147483647 : Int32)) - (1 : Int32)).toInt64)) / (2 : Int64))))])) _
                refine XS.lcmp X163.here hx rfl (hb hby at_157) rfl ?_
                show Steps p.tables e below (T163.setTop (mkF m 158 #[.val (.int p0), .val (.int p1), .val (.ref b71), .val (.int ((p0 &&& (2147483647 : Int32)) % (9 : Int32))), .val (.int (p1 &&& (2147483647 : Int32))), .val (.long ((p1 &&& (2147483647 : Int32)).toInt64)), .second, .val (.long ((((p1 &&& (2147483647 : Int32)).toInt64) * (((p1 &&& (2147483647 : Int32)).toInt64) - (1 : Int64))) / (2 : Int64))), .second] [(.int (lcmpW (((0 : Int64) + ((0 : Int32).toInt64)) + ((((p1 &&& (2147483647 : Int32)).toInt64) * (((p1 &&& (2147483647 : Int32)) - (1 : Int32)).toInt64)) / (2 : Int64))) ((((p1 &&& (2147483647 : Int32)).toInt64) * (((p1 &&& (2147483647 : Int32)).toInt64) - (1 : Int64))) / (2 : Int64))))])) _
                exact kt
              by_cases hc165 : (lcmpW (((0 : Int64) + ((0 : Int32).toInt64)) + ((((p1 &&& (2147483647 : Int32)).toInt64) * (((p1 &&& (2147483647 : Int32)) - (1 : Int32)).toInt64)) / (2 : Int64))) ((((p1 &&& (2147483647 : Int32)).toInt64) * (((p1 &&& (2147483647 : Int32)).toInt64) - (1 : Int64))) / (2 : Int64))) = (0 : Int32)
              · obtain ⟨fs, hr, hrun, hended, hW, hsame⟩ := X163.leave (v := some (.int (1 : Int32))) (fun h => by rw [Bd.returns] at h; cases h)
                refine ⟨_, _, pre164 _ ?_, hrun, hended, _, _, rfl, ?_, ⟨_, rfl⟩, hW, hsame.mono (by decide) (by decide)⟩
                · show Steps p.tables e below (T163.setTop (mkF m 158 #[.val (.int p0), .val (.int p1), .val (.ref b71), .val (.int ((p0 &&& (2147483647 : Int32)) % (9 : Int32))), .val (.int (p1 &&& (2147483647 : Int32))), .val (.long ((p1 &&& (2147483647 : Int32)).toInt64)), .second, .val (.long ((((p1 &&& (2147483647 : Int32)).toInt64) * (((p1 &&& (2147483647 : Int32)).toInt64) - (1 : Int64))) / (2 : Int64))), .second] [(.int (lcmpW (((0 : Int64) + ((0 : Int32).toInt64)) + ((((p1 &&& (2147483647 : Int32)).toInt64) * (((p1 &&& (2147483647 : Int32)) - (1 : Int32)).toInt64)) / (2 : Int64))) ((((p1 &&& (2147483647 : Int32)).toInt64) * (((p1 &&& (2147483647 : Int32)).toInt64) - (1 : Int64))) / (2 : Int64))))])) _
                  refine XS.ifNo X163.here hx rfl (hb hby at_158) rfl ((if0 _ _).trans (teq hc165).2) ?_
                  show Steps p.tables e below (T163.setTop (mkF m 161 #[.val (.int p0), .val (.int p1), .val (.ref b71), .val (.int ((p0 &&& (2147483647 : Int32)) % (9 : Int32))), .val (.int (p1 &&& (2147483647 : Int32))), .val (.long ((p1 &&& (2147483647 : Int32)).toInt64)), .second, .val (.long ((((p1 &&& (2147483647 : Int32)).toInt64) * (((p1 &&& (2147483647 : Int32)).toInt64) - (1 : Int64))) / (2 : Int64))), .second] [])) _
                  refine XS.iconst X163.here hx rfl (hb hby at_161) ?_
                  show Steps p.tables e below (T163.setTop (mkF m 162 #[.val (.int p0), .val (.int p1), .val (.ref b71), .val (.int ((p0 &&& (2147483647 : Int32)) % (9 : Int32))), .val (.int (p1 &&& (2147483647 : Int32))), .val (.long ((p1 &&& (2147483647 : Int32)).toInt64)), .second, .val (.long ((((p1 &&& (2147483647 : Int32)).toInt64) * (((p1 &&& (2147483647 : Int32)).toInt64) - (1 : Int64))) / (2 : Int64))), .second] [(.int (1 : Int32))])) _
                  refine XS.goto X163.here hx rfl (pc0 := 162) (pc' := 166) rfl (hb hby at_162) (by decide) (by decide) ?_
                  show Steps p.tables e below (T163.setTop (mkF m 166 #[.val (.int p0), .val (.int p1), .val (.ref b71), .val (.int ((p0 &&& (2147483647 : Int32)) % (9 : Int32))), .val (.int (p1 &&& (2147483647 : Int32))), .val (.long ((p1 &&& (2147483647 : Int32)).toInt64)), .second, .val (.long ((((p1 &&& (2147483647 : Int32)).toInt64) * (((p1 &&& (2147483647 : Int32)).toInt64) - (1 : Int64))) / (2 : Int64))), .second] [(.int (1 : Int32))])) _
                  exact retN X163 hx (t := .boolean) Bd.returns (by simp) (hb hby at_166) hr
                · show Q0 Z w_1 w_2 w_3 w_4 w_5 w_6 w_7 w_8 w_9 p0 p1 h0 n0 _ T163.heap _
                  rw [e163]
                  exact ⟨by unfold sp0; rw [if_neg hc100, if_neg hc129, if_neg hc137, if_neg hc145, if_neg hc153, if_pos hc161, if_pos hc165], N163, trivial⟩
              · obtain ⟨fs, hr, hrun, hended, hW, hsame⟩ := X163.leave (v := some (.int (0 : Int32))) (fun h => by rw [Bd.returns] at h; cases h)
                refine ⟨_, _, pre164 _ ?_, hrun, hended, _, _, rfl, ?_, ⟨_, rfl⟩, hW, hsame.mono (by decide) (by decide)⟩
                · show Steps p.tables e below (T163.setTop (mkF m 158 #[.val (.int p0), .val (.int p1), .val (.ref b71), .val (.int ((p0 &&& (2147483647 : Int32)) % (9 : Int32))), .val (.int (p1 &&& (2147483647 : Int32))), .val (.long ((p1 &&& (2147483647 : Int32)).toInt64)), .second, .val (.long ((((p1 &&& (2147483647 : Int32)).toInt64) * (((p1 &&& (2147483647 : Int32)).toInt64) - (1 : Int64))) / (2 : Int64))), .second] [(.int (lcmpW (((0 : Int64) + ((0 : Int32).toInt64)) + ((((p1 &&& (2147483647 : Int32)).toInt64) * (((p1 &&& (2147483647 : Int32)) - (1 : Int32)).toInt64)) / (2 : Int64))) ((((p1 &&& (2147483647 : Int32)).toInt64) * (((p1 &&& (2147483647 : Int32)).toInt64) - (1 : Int64))) / (2 : Int64))))])) _
                  refine XS.ifYes X163.here hx rfl (pc0 := 158) (pc' := 165) rfl (hb hby at_158) rfl ((if0 _ _).trans (feq hc165).2) (by decide) (by decide) ?_
                  show Steps p.tables e below (T163.setTop (mkF m 165 #[.val (.int p0), .val (.int p1), .val (.ref b71), .val (.int ((p0 &&& (2147483647 : Int32)) % (9 : Int32))), .val (.int (p1 &&& (2147483647 : Int32))), .val (.long ((p1 &&& (2147483647 : Int32)).toInt64)), .second, .val (.long ((((p1 &&& (2147483647 : Int32)).toInt64) * (((p1 &&& (2147483647 : Int32)).toInt64) - (1 : Int64))) / (2 : Int64))), .second] [])) _
                  refine XS.iconst X163.here hx rfl (hb hby at_165) ?_
                  show Steps p.tables e below (T163.setTop (mkF m 166 #[.val (.int p0), .val (.int p1), .val (.ref b71), .val (.int ((p0 &&& (2147483647 : Int32)) % (9 : Int32))), .val (.int (p1 &&& (2147483647 : Int32))), .val (.long ((p1 &&& (2147483647 : Int32)).toInt64)), .second, .val (.long ((((p1 &&& (2147483647 : Int32)).toInt64) * (((p1 &&& (2147483647 : Int32)).toInt64) - (1 : Int64))) / (2 : Int64))), .second] [(.int (0 : Int32))])) _
                  exact retN X163 hx (t := .boolean) Bd.returns (by simp) (hb hby at_166) hr
                · show Q0 Z w_1 w_2 w_3 w_4 w_5 w_6 w_7 w_8 w_9 p0 p1 h0 n0 _ T163.heap _
                  rw [e163]
                  exact ⟨by unfold sp0; rw [if_neg hc100, if_neg hc129, if_neg hc137, if_neg hc145, if_neg hc153, if_pos hc161, if_neg hc165], N163, trivial⟩
            · by_cases hc166 : ((p0 &&& (2147483647 : Int32)) % (9 : Int32)) = (2 : Int32)
              · obtain ⟨cl167, Ar167, qa167, Sa167, Ma167, Ha167, Ga167⟩ := id V_b71_98
                have hin167 : ¬ (((p0 &&& (2147483647 : Int32)) % (9 : Int32)) < 0 ∨ cl167.slots.size ≤ (((p0 &&& (2147483647 : Int32)) % (9 : Int32))).toNatClampNeg) := by rw [hc166]; exact inb_of Sa167 ⟨by decide, by decide⟩
                have hat167 : cl167.slots[(((p0 &&& (2147483647 : Int32)) % (9 : Int32))).toNatClampNeg]? = some (.ref w_3) := Has.at Ha167 hin167 (by rw [hc166]; rfl)
                obtain ⟨cq168, kq168, q168a, q168b, q168c⟩ := isOf hZ e98 (E_3.ext O98.2)
                obtain ⟨_, _, ⟨T168, L168, k168, n168⟩, -, X168, ⟨Lc168, hQ168, l168, y168, z168⟩, st168⟩ := X98.virtualBack hx (y := Y0) (z := Y0) hown (mvT hZ (hw _ (tk 23 rfl))) (mvT hZ (hw _ (tk 24 rfl))) (notFace_of_selects (args := #[]) (mvT hZ (hw _ (tk 26 rfl)))) (mvT hZ (hw _ (tk 26 rfl))) (mvT hZ (hw _ (tk 25 rfl))) (by decide) (backOf (W := 0) (rm1 l Z a0 hw [] w_1 w_2 w_3 w_4 w_5 w_6 w_7 w_8 w_9 hS0 w_3 (p1 &&& (2147483647 : Int32)) (1 : Int32) (0 : Int32) (0 : Int32) h98 n0 O98 (F_3_belowDiagonal.ext O98.2) (F_3_diagonal.ext O98.2) (F_3_aboveDiagonal.ext O98.2)) hZ (hw _ (tk 27 rfl)) (hw _ (tk 3 rfl)) (by decide) (by decide)) q168a q168c (g := (mkF m 152 #[.val (.int p0), .val (.int p1), .val (.ref b71), .val (.int ((p0 &&& (2147483647 : Int32)) % (9 : Int32))), .val (.int (p1 &&& (2147483647 : Int32))), .val (.long ((p1 &&& (2147483647 : Int32)).toInt64)), .second, .val (.long ((((p1 &&& (2147483647 : Int32)).toInt64) * (((p1 &&& (2147483647 : Int32)).toInt64) - (1 : Int64))) / (2 : Int64))), .second] [(.int (p1 &&& (2147483647 : Int32))), (.ref w_3)])) rfl (by rw [hml]; rfl) (Steps.refl _) (argsL := [(.int (p1 &&& (2147483647 : Int32)))]) (rest := []) (lenOf pd_0 rfl) rfl (by show 2 * 0 + _ ≤ _; exact Nat.le_of_eq rfl) (hb hby at_152) (fun _ _ => ⟨rfl, e98, (by decide : 1 + 0 ≤ _), (by decide : 9 + 0 ≤ _)⟩)
                dsimp only [Pt.U, Pt.locs, Pt.cells, Pt.slots] at X168 l168 y168 z168 st168 hQ168
                subst l168 y168 z168
                obtain ⟨rv168, N168q, e168⟩ := hQ168
                rw [show sp1 (p1 &&& (2147483647 : Int32)) (1 : Int32) (0 : Int32) (0 : Int32) = ((((((p1 &&& (2147483647 : Int32)).toInt64) * (((p1 &&& (2147483647 : Int32)) - (1 : Int32)).toInt64)) / (2 : Int64)) + ((0 : Int32).toInt64)) + (0 : Int64)) from by unfold sp1; rw [if_neg (by decide : ¬ ((1 : Int32) = (0 : Int32))), if_pos (by decide : ((0 : Int32) = (0 : Int32))), if_pos (by decide : ((0 : Int32) = (0 : Int32)))]] at rv168
                subst rv168
                have N168 := Fr.app N98 N168q
                have pre169 : ∀ t, Steps p.tables e below (T168.setTop (mkF m 158 #[.val (.int p0), .val (.int p1), .val (.ref b71), .val (.int ((p0 &&& (2147483647 : Int32)) % (9 : Int32))), .val (.int (p1 &&& (2147483647 : Int32))), .val (.long ((p1 &&& (2147483647 : Int32)).toInt64)), .second, .val (.long ((((p1 &&& (2147483647 : Int32)).toInt64) * (((p1 &&& (2147483647 : Int32)).toInt64) - (1 : Int64))) / (2 : Int64))), .second] [(.int (lcmpW ((((((p1 &&& (2147483647 : Int32)).toInt64) * (((p1 &&& (2147483647 : Int32)) - (1 : Int32)).toInt64)) / (2 : Int64)) + ((0 : Int32).toInt64)) + (0 : Int64)) ((((p1 &&& (2147483647 : Int32)).toInt64) * (((p1 &&& (2147483647 : Int32)).toInt64) - (1 : Int64))) / (2 : Int64))))])) t → Steps p.tables e below (s₁.setTop (entryFrame m #[(.int p0), (.int p1)] maxLocals)) t := fun t kt => by
                  refine pre160 t ?_
                  show Steps p.tables e below (T98.setTop (mkF m 149 #[.val (.int p0), .val (.int p1), .val (.ref b71), .val (.int ((p0 &&& (2147483647 : Int32)) % (9 : Int32))), .val (.int (p1 &&& (2147483647 : Int32))), .val (.long ((p1 &&& (2147483647 : Int32)).toInt64)), .second, .val (.long ((((p1 &&& (2147483647 : Int32)).toInt64) * (((p1 &&& (2147483647 : Int32)).toInt64) - (1 : Int64))) / (2 : Int64))), .second] [(.int ((p0 &&& (2147483647 : Int32)) % (9 : Int32))), (.ref b71)])) _
                  refine X98.aaload hx (j := ((p0 &&& (2147483647 : Int32)) % (9 : Int32))) (v := (.ref w_3)) (by rw [e98]; exact Ar167.1) (State.isArrayOf_alike hZ.alike Ar167.2.1) rfl Ar167.2.2 hin167 hat167 (g := (mkF m 149 #[.val (.int p0), .val (.int p1), .val (.ref b71), .val (.int ((p0 &&& (2147483647 : Int32)) % (9 : Int32))), .val (.int (p1 &&& (2147483647 : Int32))), .val (.long ((p1 &&& (2147483647 : Int32)).toInt64)), .second, .val (.long ((((p1 &&& (2147483647 : Int32)).toInt64) * (((p1 &&& (2147483647 : Int32)).toInt64) - (1 : Int64))) / (2 : Int64))), .second] [(.int ((p0 &&& (2147483647 : Int32)) % (9 : Int32))), (.ref b71)])) rfl rfl (hb hby at_149) _ ?_
                  show Steps p.tables e below (T98.setTop (mkF m 150 #[.val (.int p0), .val (.int p1), .val (.ref b71), .val (.int ((p0 &&& (2147483647 : Int32)) % (9 : Int32))), .val (.int (p1 &&& (2147483647 : Int32))), .val (.long ((p1 &&& (2147483647 : Int32)).toInt64)), .second, .val (.long ((((p1 &&& (2147483647 : Int32)).toInt64) * (((p1 &&& (2147483647 : Int32)).toInt64) - (1 : Int64))) / (2 : Int64))), .second] [(.ref w_3)])) _
                  refine XS.iload X98.here hx rfl (hb hby at_150) rfl ?_
                  show Steps p.tables e below (T98.setTop (mkF m 152 #[.val (.int p0), .val (.int p1), .val (.ref b71), .val (.int ((p0 &&& (2147483647 : Int32)) % (9 : Int32))), .val (.int (p1 &&& (2147483647 : Int32))), .val (.long ((p1 &&& (2147483647 : Int32)).toInt64)), .second, .val (.long ((((p1 &&& (2147483647 : Int32)).toInt64) * (((p1 &&& (2147483647 : Int32)).toInt64) - (1 : Int64))) / (2 : Int64))), .second] [(.int (p1 &&& (2147483647 : Int32))), (.ref w_3)])) _
                  refine st168.trans ?_
                  show Steps p.tables e below (T168.setTop (mkF m 155 #[.val (.int p0), .val (.int p1), .val (.ref b71), .val (.int ((p0 &&& (2147483647 : Int32)) % (9 : Int32))), .val (.int (p1 &&& (2147483647 : Int32))), .val (.long ((p1 &&& (2147483647 : Int32)).toInt64)), .second, .val (.long ((((p1 &&& (2147483647 : Int32)).toInt64) * (((p1 &&& (2147483647 : Int32)).toInt64) - (1 : Int64))) / (2 : Int64))), .second] [(.long ((((((p1 &&& (2147483647 : Int32)).toInt64) * (((p1 &&& (2147483647 : Int32)) - (1 : Int32)).toInt64)) / (2 : Int64)) + ((0 : Int32).toInt64)) + (0 : Int64)))])) _
                  refine XS.lload X168.here hx rfl (hb hby at_155) rfl ?_
                  show Steps p.tables e below (T168.setTop (mkF m 157 #[.val (.int p0), .val (.int p1), .val (.ref b71), .val (.int ((p0 &&& (2147483647 : Int32)) % (9 : Int32))), .val (.int (p1 &&& (2147483647 : Int32))), .val (.long ((p1 &&& (2147483647 : Int32)).toInt64)), .second, .val (.long ((((p1 &&& (2147483647 : Int32)).toInt64) * (((p1 &&& (2147483647 : Int32)).toInt64) - (1 : Int64))) / (2 : Int64))), .second] [(.long ((((p1 &&& (2147483647 : Int32)).toInt64) * (((p1 &&& (2147483647 : Int32)).toInt64) - (1 : Int64))) / (2 : Int64))), (.long ((((((p1 &&& (2147483647 : Int32)).toInt64) * (((p1 &&& (2147483647 : Int32)) - (1 : Int32)).toInt64)) / (2 : Int64)) + ((0 : Int32).toInt64)) + (0 : Int64)))])) _
                  refine XS.lcmp X168.here hx rfl (hb hby at_157) rfl ?_
                  show Steps p.tables e below (T168.setTop (mkF m 158 #[.val (.int p0), .val (.int p1), .val (.ref b71), .val (.int ((p0 &&& (2147483647 : Int32)) % (9 : Int32))), .val (.int (p1 &&& (2147483647 : Int32))), .val (.long ((p1 &&& (2147483647 : Int32)).toInt64)), .second, .val (.long ((((p1 &&& (2147483647 : Int32)).toInt64) * (((p1 &&& (2147483647 : Int32)).toInt64) - (1 : Int64))) / (2 : Int64))), .second] [(.int (lcmpW ((((((p1 &&& (2147483647 : Int32)).toInt64) * (((p1 &&& (2147483647 : Int32)) - (1 : Int32)).toInt64)) / (2 : Int64)) + ((0 : Int32).toInt64)) + (0 : Int64)) ((((p1 &&& (2147483647 : Int32)).toInt64) * (((p1 &&& (2147483647 : Int32)).toInt64) - (1 : Int64))) / (2 : Int64))))])) _
                  exact kt
                by_cases hc170 : (lcmpW ((((((p1 &&& (2147483647 : Int32)).toInt64) * (((p1 &&& (2147483647 : Int32)) - (1 : Int32)).toInt64)) / (2 : Int64)) + ((0 : Int32).toInt64)) + (0 : Int64)) ((((p1 &&& (2147483647 : Int32)).toInt64) * (((p1 &&& (2147483647 : Int32)).toInt64) - (1 : Int64))) / (2 : Int64))) = (0 : Int32)
                · obtain ⟨fs, hr, hrun, hended, hW, hsame⟩ := X168.leave (v := some (.int (1 : Int32))) (fun h => by rw [Bd.returns] at h; cases h)
                  refine ⟨_, _, pre169 _ ?_, hrun, hended, _, _, rfl, ?_, ⟨_, rfl⟩, hW, hsame.mono (by decide) (by decide)⟩
                  · show Steps p.tables e below (T168.setTop (mkF m 158 #[.val (.int p0), .val (.int p1), .val (.ref b71), .val (.int ((p0 &&& (2147483647 : Int32)) % (9 : Int32))), .val (.int (p1 &&& (2147483647 : Int32))), .val (.long ((p1 &&& (2147483647 : Int32)).toInt64)), .second, .val (.long ((((p1 &&& (2147483647 : Int32)).toInt64) * (((p1 &&& (2147483647 : Int32)).toInt64) - (1 : Int64))) / (2 : Int64))), .second] [(.int (lcmpW ((((((p1 &&& (2147483647 : Int32)).toInt64) * (((p1 &&& (2147483647 : Int32)) - (1 : Int32)).toInt64)) / (2 : Int64)) + ((0 : Int32).toInt64)) + (0 : Int64)) ((((p1 &&& (2147483647 : Int32)).toInt64) * (((p1 &&& (2147483647 : Int32)).toInt64) - (1 : Int64))) / (2 : Int64))))])) _
                    refine XS.ifNo X168.here hx rfl (hb hby at_158) rfl ((if0 _ _).trans (teq hc170).2) ?_
                    show Steps p.tables e below (T168.setTop (mkF m 161 #[.val (.int p0), .val (.int p1), .val (.ref b71), .val (.int ((p0 &&& (2147483647 : Int32)) % (9 : Int32))), .val (.int (p1 &&& (2147483647 : Int32))), .val (.long ((p1 &&& (2147483647 : Int32)).toInt64)), .second, .val (.long ((((p1 &&& (2147483647 : Int32)).toInt64) * (((p1 &&& (2147483647 : Int32)).toInt64) - (1 : Int64))) / (2 : Int64))), .second] [])) _
                    refine XS.iconst X168.here hx rfl (hb hby at_161) ?_
                    show Steps p.tables e below (T168.setTop (mkF m 162 #[.val (.int p0), .val (.int p1), .val (.ref b71), .val (.int ((p0 &&& (2147483647 : Int32)) % (9 : Int32))), .val (.int (p1 &&& (2147483647 : Int32))), .val (.long ((p1 &&& (2147483647 : Int32)).toInt64)), .second, .val (.long ((((p1 &&& (2147483647 : Int32)).toInt64) * (((p1 &&& (2147483647 : Int32)).toInt64) - (1 : Int64))) / (2 : Int64))), .second] [(.int (1 : Int32))])) _
                    refine XS.goto X168.here hx rfl (pc0 := 162) (pc' := 166) rfl (hb hby at_162) (by decide) (by decide) ?_
                    show Steps p.tables e below (T168.setTop (mkF m 166 #[.val (.int p0), .val (.int p1), .val (.ref b71), .val (.int ((p0 &&& (2147483647 : Int32)) % (9 : Int32))), .val (.int (p1 &&& (2147483647 : Int32))), .val (.long ((p1 &&& (2147483647 : Int32)).toInt64)), .second, .val (.long ((((p1 &&& (2147483647 : Int32)).toInt64) * (((p1 &&& (2147483647 : Int32)).toInt64) - (1 : Int64))) / (2 : Int64))), .second] [(.int (1 : Int32))])) _
                    exact retN X168 hx (t := .boolean) Bd.returns (by simp) (hb hby at_166) hr
                  · show Q0 Z w_1 w_2 w_3 w_4 w_5 w_6 w_7 w_8 w_9 p0 p1 h0 n0 _ T168.heap _
                    rw [e168]
                    exact ⟨by unfold sp0; rw [if_neg hc100, if_neg hc129, if_neg hc137, if_neg hc145, if_neg hc153, if_neg hc161, if_pos hc166, if_pos hc170], N168, trivial⟩
                · obtain ⟨fs, hr, hrun, hended, hW, hsame⟩ := X168.leave (v := some (.int (0 : Int32))) (fun h => by rw [Bd.returns] at h; cases h)
                  refine ⟨_, _, pre169 _ ?_, hrun, hended, _, _, rfl, ?_, ⟨_, rfl⟩, hW, hsame.mono (by decide) (by decide)⟩
                  · show Steps p.tables e below (T168.setTop (mkF m 158 #[.val (.int p0), .val (.int p1), .val (.ref b71), .val (.int ((p0 &&& (2147483647 : Int32)) % (9 : Int32))), .val (.int (p1 &&& (2147483647 : Int32))), .val (.long ((p1 &&& (2147483647 : Int32)).toInt64)), .second, .val (.long ((((p1 &&& (2147483647 : Int32)).toInt64) * (((p1 &&& (2147483647 : Int32)).toInt64) - (1 : Int64))) / (2 : Int64))), .second] [(.int (lcmpW ((((((p1 &&& (2147483647 : Int32)).toInt64) * (((p1 &&& (2147483647 : Int32)) - (1 : Int32)).toInt64)) / (2 : Int64)) + ((0 : Int32).toInt64)) + (0 : Int64)) ((((p1 &&& (2147483647 : Int32)).toInt64) * (((p1 &&& (2147483647 : Int32)).toInt64) - (1 : Int64))) / (2 : Int64))))])) _
                    refine XS.ifYes X168.here hx rfl (pc0 := 158) (pc' := 165) rfl (hb hby at_158) rfl ((if0 _ _).trans (feq hc170).2) (by decide) (by decide) ?_
                    show Steps p.tables e below (T168.setTop (mkF m 165 #[.val (.int p0), .val (.int p1), .val (.ref b71), .val (.int ((p0 &&& (2147483647 : Int32)) % (9 : Int32))), .val (.int (p1 &&& (2147483647 : Int32))), .val (.long ((p1 &&& (2147483647 : Int32)).toInt64)), .second, .val (.long ((((p1 &&& (2147483647 : Int32)).toInt64) * (((p1 &&& (2147483647 : Int32)).toInt64) - (1 : Int64))) / (2 : Int64))), .second] [])) _
                    refine XS.iconst X168.here hx rfl (hb hby at_165) ?_
                    show Steps p.tables e below (T168.setTop (mkF m 166 #[.val (.int p0), .val (.int p1), .val (.ref b71), .val (.int ((p0 &&& (2147483647 : Int32)) % (9 : Int32))), .val (.int (p1 &&& (2147483647 : Int32))), .val (.long ((p1 &&& (2147483647 : Int32)).toInt64)), .second, .val (.long ((((p1 &&& (2147483647 : Int32)).toInt64) * (((p1 &&& (2147483647 : Int32)).toInt64) - (1 : Int64))) / (2 : Int64))), .second] [(.int (0 : Int32))])) _
                    exact retN X168 hx (t := .boolean) Bd.returns (by simp) (hb hby at_166) hr
                  · show Q0 Z w_1 w_2 w_3 w_4 w_5 w_6 w_7 w_8 w_9 p0 p1 h0 n0 _ T168.heap _
                    rw [e168]
                    exact ⟨by unfold sp0; rw [if_neg hc100, if_neg hc129, if_neg hc137, if_neg hc145, if_neg hc153, if_neg hc161, if_pos hc166, if_neg hc170], N168, trivial⟩
              · by_cases hc171 : ((p0 &&& (2147483647 : Int32)) % (9 : Int32)) = (5 : Int32)
                · obtain ⟨cl172, Ar172, qa172, Sa172, Ma172, Ha172, Ga172⟩ := id V_b71_98
                  have hin172 : ¬ (((p0 &&& (2147483647 : Int32)) % (9 : Int32)) < 0 ∨ cl172.slots.size ≤ (((p0 &&& (2147483647 : Int32)) % (9 : Int32))).toNatClampNeg) := by rw [hc171]; exact inb_of Sa172 ⟨by decide, by decide⟩
                  have hat172 : cl172.slots[(((p0 &&& (2147483647 : Int32)) % (9 : Int32))).toNatClampNeg]? = some (.ref w_6) := Has.at Ha172 hin172 (by rw [hc171]; rfl)
                  obtain ⟨cq173, kq173, q173a, q173b, q173c⟩ := isOf hZ e98 (E_6.ext O98.2)
                  obtain ⟨_, _, ⟨T173, L173, k173, n173⟩, -, X173, ⟨Lc173, hQ173, l173, y173, z173⟩, st173⟩ := X98.virtualBack hx (y := Y0) (z := Y0) hown (mvT hZ (hw _ (tk 23 rfl))) (mvT hZ (hw _ (tk 24 rfl))) (notFace_of_selects (args := #[]) (mvT hZ (hw _ (tk 26 rfl)))) (mvT hZ (hw _ (tk 26 rfl))) (mvT hZ (hw _ (tk 25 rfl))) (by decide) (backOf (W := 0) (rm1 l Z a0 hw [] w_1 w_2 w_3 w_4 w_5 w_6 w_7 w_8 w_9 hS0 w_6 (p1 &&& (2147483647 : Int32)) (1 : Int32) (0 : Int32) (0 : Int32) h98 n0 O98 (F_6_belowDiagonal.ext O98.2) (F_6_diagonal.ext O98.2) (F_6_aboveDiagonal.ext O98.2)) hZ (hw _ (tk 27 rfl)) (hw _ (tk 3 rfl)) (by decide) (by decide)) q173a q173c (g := (mkF m 152 #[.val (.int p0), .val (.int p1), .val (.ref b71), .val (.int ((p0 &&& (2147483647 : Int32)) % (9 : Int32))), .val (.int (p1 &&& (2147483647 : Int32))), .val (.long ((p1 &&& (2147483647 : Int32)).toInt64)), .second, .val (.long ((((p1 &&& (2147483647 : Int32)).toInt64) * (((p1 &&& (2147483647 : Int32)).toInt64) - (1 : Int64))) / (2 : Int64))), .second] [(.int (p1 &&& (2147483647 : Int32))), (.ref w_6)])) rfl (by rw [hml]; rfl) (Steps.refl _) (argsL := [(.int (p1 &&& (2147483647 : Int32)))]) (rest := []) (lenOf pd_0 rfl) rfl (by show 2 * 0 + _ ≤ _; exact Nat.le_of_eq rfl) (hb hby at_152) (fun _ _ => ⟨rfl, e98, (by decide : 1 + 0 ≤ _), (by decide : 9 + 0 ≤ _)⟩)
                  dsimp only [Pt.U, Pt.locs, Pt.cells, Pt.slots] at X173 l173 y173 z173 st173 hQ173
                  subst l173 y173 z173
                  obtain ⟨rv173, N173q, e173⟩ := hQ173
                  rw [show sp1 (p1 &&& (2147483647 : Int32)) (1 : Int32) (0 : Int32) (0 : Int32) = ((((((p1 &&& (2147483647 : Int32)).toInt64) * (((p1 &&& (2147483647 : Int32)) - (1 : Int32)).toInt64)) / (2 : Int64)) + ((0 : Int32).toInt64)) + (0 : Int64)) from by unfold sp1; rw [if_neg (by decide : ¬ ((1 : Int32) = (0 : Int32))), if_pos (by decide : ((0 : Int32) = (0 : Int32))), if_pos (by decide : ((0 : Int32) = (0 : Int32)))]] at rv173
                  subst rv173
                  have N173 := Fr.app N98 N173q
                  have pre174 : ∀ t, Steps p.tables e below (T173.setTop (mkF m 158 #[.val (.int p0), .val (.int p1), .val (.ref b71), .val (.int ((p0 &&& (2147483647 : Int32)) % (9 : Int32))), .val (.int (p1 &&& (2147483647 : Int32))), .val (.long ((p1 &&& (2147483647 : Int32)).toInt64)), .second, .val (.long ((((p1 &&& (2147483647 : Int32)).toInt64) * (((p1 &&& (2147483647 : Int32)).toInt64) - (1 : Int64))) / (2 : Int64))), .second] [(.int (lcmpW ((((((p1 &&& (2147483647 : Int32)).toInt64) * (((p1 &&& (2147483647 : Int32)) - (1 : Int32)).toInt64)) / (2 : Int64)) + ((0 : Int32).toInt64)) + (0 : Int64)) ((((p1 &&& (2147483647 : Int32)).toInt64) * (((p1 &&& (2147483647 : Int32)).toInt64) - (1 : Int64))) / (2 : Int64))))])) t → Steps p.tables e below (s₁.setTop (entryFrame m #[(.int p0), (.int p1)] maxLocals)) t := fun t kt => by
                    refine pre160 t ?_
                    show Steps p.tables e below (T98.setTop (mkF m 149 #[.val (.int p0), .val (.int p1), .val (.ref b71), .val (.int ((p0 &&& (2147483647 : Int32)) % (9 : Int32))), .val (.int (p1 &&& (2147483647 : Int32))), .val (.long ((p1 &&& (2147483647 : Int32)).toInt64)), .second, .val (.long ((((p1 &&& (2147483647 : Int32)).toInt64) * (((p1 &&& (2147483647 : Int32)).toInt64) - (1 : Int64))) / (2 : Int64))), .second] [(.int ((p0 &&& (2147483647 : Int32)) % (9 : Int32))), (.ref b71)])) _
                    refine X98.aaload hx (j := ((p0 &&& (2147483647 : Int32)) % (9 : Int32))) (v := (.ref w_6)) (by rw [e98]; exact Ar172.1) (State.isArrayOf_alike hZ.alike Ar172.2.1) rfl Ar172.2.2 hin172 hat172 (g := (mkF m 149 #[.val (.int p0), .val (.int p1), .val (.ref b71), .val (.int ((p0 &&& (2147483647 : Int32)) % (9 : Int32))), .val (.int (p1 &&& (2147483647 : Int32))), .val (.long ((p1 &&& (2147483647 : Int32)).toInt64)), .second, .val (.long ((((p1 &&& (2147483647 : Int32)).toInt64) * (((p1 &&& (2147483647 : Int32)).toInt64) - (1 : Int64))) / (2 : Int64))), .second] [(.int ((p0 &&& (2147483647 : Int32)) % (9 : Int32))), (.ref b71)])) rfl rfl (hb hby at_149) _ ?_
                    show Steps p.tables e below (T98.setTop (mkF m 150 #[.val (.int p0), .val (.int p1), .val (.ref b71), .val (.int ((p0 &&& (2147483647 : Int32)) % (9 : Int32))), .val (.int (p1 &&& (2147483647 : Int32))), .val (.long ((p1 &&& (2147483647 : Int32)).toInt64)), .second, .val (.long ((((p1 &&& (2147483647 : Int32)).toInt64) * (((p1 &&& (2147483647 : Int32)).toInt64) - (1 : Int64))) / (2 : Int64))), .second] [(.ref w_6)])) _
                    refine XS.iload X98.here hx rfl (hb hby at_150) rfl ?_
                    show Steps p.tables e below (T98.setTop (mkF m 152 #[.val (.int p0), .val (.int p1), .val (.ref b71), .val (.int ((p0 &&& (2147483647 : Int32)) % (9 : Int32))), .val (.int (p1 &&& (2147483647 : Int32))), .val (.long ((p1 &&& (2147483647 : Int32)).toInt64)), .second, .val (.long ((((p1 &&& (2147483647 : Int32)).toInt64) * (((p1 &&& (2147483647 : Int32)).toInt64) - (1 : Int64))) / (2 : Int64))), .second] [(.int (p1 &&& (2147483647 : Int32))), (.ref w_6)])) _
                    refine st173.trans ?_
                    show Steps p.tables e below (T173.setTop (mkF m 155 #[.val (.int p0), .val (.int p1), .val (.ref b71), .val (.int ((p0 &&& (2147483647 : Int32)) % (9 : Int32))), .val (.int (p1 &&& (2147483647 : Int32))), .val (.long ((p1 &&& (2147483647 : Int32)).toInt64)), .second, .val (.long ((((p1 &&& (2147483647 : Int32)).toInt64) * (((p1 &&& (2147483647 : Int32)).toInt64) - (1 : Int64))) / (2 : Int64))), .second] [(.long ((((((p1 &&& (2147483647 : Int32)).toInt64) * (((p1 &&& (2147483647 : Int32)) - (1 : Int32)).toInt64)) / (2 : Int64)) + ((0 : Int32).toInt64)) + (0 : Int64)))])) _
                    refine XS.lload X173.here hx rfl (hb hby at_155) rfl ?_
                    show Steps p.tables e below (T173.setTop (mkF m 157 #[.val (.int p0), .val (.int p1), .val (.ref b71), .val (.int ((p0 &&& (2147483647 : Int32)) % (9 : Int32))), .val (.int (p1 &&& (2147483647 : Int32))), .val (.long ((p1 &&& (2147483647 : Int32)).toInt64)), .second, .val (.long ((((p1 &&& (2147483647 : Int32)).toInt64) * (((p1 &&& (2147483647 : Int32)).toInt64) - (1 : Int64))) / (2 : Int64))), .second] [(.long ((((p1 &&& (2147483647 : Int32)).toInt64) * (((p1 &&& (2147483647 : Int32)).toInt64) - (1 : Int64))) / (2 : Int64))), (.long ((((((p1 &&& (2147483647 : Int32)).toInt64) * (((p1 &&& (2147483647 : Int32)) - (1 : Int32)).toInt64)) / (2 : Int64)) + ((0 : Int32).toInt64)) + (0 : Int64)))])) _
                    refine XS.lcmp X173.here hx rfl (hb hby at_157) rfl ?_
                    show Steps p.tables e below (T173.setTop (mkF m 158 #[.val (.int p0), .val (.int p1), .val (.ref b71), .val (.int ((p0 &&& (2147483647 : Int32)) % (9 : Int32))), .val (.int (p1 &&& (2147483647 : Int32))), .val (.long ((p1 &&& (2147483647 : Int32)).toInt64)), .second, .val (.long ((((p1 &&& (2147483647 : Int32)).toInt64) * (((p1 &&& (2147483647 : Int32)).toInt64) - (1 : Int64))) / (2 : Int64))), .second] [(.int (lcmpW ((((((p1 &&& (2147483647 : Int32)).toInt64) * (((p1 &&& (2147483647 : Int32)) - (1 : Int32)).toInt64)) / (2 : Int64)) + ((0 : Int32).toInt64)) + (0 : Int64)) ((((p1 &&& (2147483647 : Int32)).toInt64) * (((p1 &&& (2147483647 : Int32)).toInt64) - (1 : Int64))) / (2 : Int64))))])) _
                    exact kt
                  by_cases hc175 : (lcmpW ((((((p1 &&& (2147483647 : Int32)).toInt64) * (((p1 &&& (2147483647 : Int32)) - (1 : Int32)).toInt64)) / (2 : Int64)) + ((0 : Int32).toInt64)) + (0 : Int64)) ((((p1 &&& (2147483647 : Int32)).toInt64) * (((p1 &&& (2147483647 : Int32)).toInt64) - (1 : Int64))) / (2 : Int64))) = (0 : Int32)
                  · obtain ⟨fs, hr, hrun, hended, hW, hsame⟩ := X173.leave (v := some (.int (1 : Int32))) (fun h => by rw [Bd.returns] at h; cases h)
                    refine ⟨_, _, pre174 _ ?_, hrun, hended, _, _, rfl, ?_, ⟨_, rfl⟩, hW, hsame.mono (by decide) (by decide)⟩
                    · show Steps p.tables e below (T173.setTop (mkF m 158 #[.val (.int p0), .val (.int p1), .val (.ref b71), .val (.int ((p0 &&& (2147483647 : Int32)) % (9 : Int32))), .val (.int (p1 &&& (2147483647 : Int32))), .val (.long ((p1 &&& (2147483647 : Int32)).toInt64)), .second, .val (.long ((((p1 &&& (2147483647 : Int32)).toInt64) * (((p1 &&& (2147483647 : Int32)).toInt64) - (1 : Int64))) / (2 : Int64))), .second] [(.int (lcmpW ((((((p1 &&& (2147483647 : Int32)).toInt64) * (((p1 &&& (2147483647 : Int32)) - (1 : Int32)).toInt64)) / (2 : Int64)) + ((0 : Int32).toInt64)) + (0 : Int64)) ((((p1 &&& (2147483647 : Int32)).toInt64) * (((p1 &&& (2147483647 : Int32)).toInt64) - (1 : Int64))) / (2 : Int64))))])) _
                      refine XS.ifNo X173.here hx rfl (hb hby at_158) rfl ((if0 _ _).trans (teq hc175).2) ?_
                      show Steps p.tables e below (T173.setTop (mkF m 161 #[.val (.int p0), .val (.int p1), .val (.ref b71), .val (.int ((p0 &&& (2147483647 : Int32)) % (9 : Int32))), .val (.int (p1 &&& (2147483647 : Int32))), .val (.long ((p1 &&& (2147483647 : Int32)).toInt64)), .second, .val (.long ((((p1 &&& (2147483647 : Int32)).toInt64) * (((p1 &&& (2147483647 : Int32)).toInt64) - (1 : Int64))) / (2 : Int64))), .second] [])) _
                      refine XS.iconst X173.here hx rfl (hb hby at_161) ?_
                      show Steps p.tables e below (T173.setTop (mkF m 162 #[.val (.int p0), .val (.int p1), .val (.ref b71), .val (.int ((p0 &&& (2147483647 : Int32)) % (9 : Int32))), .val (.int (p1 &&& (2147483647 : Int32))), .val (.long ((p1 &&& (2147483647 : Int32)).toInt64)), .second, .val (.long ((((p1 &&& (2147483647 : Int32)).toInt64) * (((p1 &&& (2147483647 : Int32)).toInt64) - (1 : Int64))) / (2 : Int64))), .second] [(.int (1 : Int32))])) _
                      refine XS.goto X173.here hx rfl (pc0 := 162) (pc' := 166) rfl (hb hby at_162) (by decide) (by decide) ?_
                      show Steps p.tables e below (T173.setTop (mkF m 166 #[.val (.int p0), .val (.int p1), .val (.ref b71), .val (.int ((p0 &&& (2147483647 : Int32)) % (9 : Int32))), .val (.int (p1 &&& (2147483647 : Int32))), .val (.long ((p1 &&& (2147483647 : Int32)).toInt64)), .second, .val (.long ((((p1 &&& (2147483647 : Int32)).toInt64) * (((p1 &&& (2147483647 : Int32)).toInt64) - (1 : Int64))) / (2 : Int64))), .second] [(.int (1 : Int32))])) _
                      exact retN X173 hx (t := .boolean) Bd.returns (by simp) (hb hby at_166) hr
                    · show Q0 Z w_1 w_2 w_3 w_4 w_5 w_6 w_7 w_8 w_9 p0 p1 h0 n0 _ T173.heap _
                      rw [e173]
                      exact ⟨by unfold sp0; rw [if_neg hc100, if_neg hc129, if_neg hc137, if_neg hc145, if_neg hc153, if_neg hc161, if_neg hc166, if_pos hc171, if_pos hc175], N173, trivial⟩
                  · obtain ⟨fs, hr, hrun, hended, hW, hsame⟩ := X173.leave (v := some (.int (0 : Int32))) (fun h => by rw [Bd.returns] at h; cases h)
                    refine ⟨_, _, pre174 _ ?_, hrun, hended, _, _, rfl, ?_, ⟨_, rfl⟩, hW, hsame.mono (by decide) (by decide)⟩
                    · show Steps p.tables e below (T173.setTop (mkF m 158 #[.val (.int p0), .val (.int p1), .val (.ref b71), .val (.int ((p0 &&& (2147483647 : Int32)) % (9 : Int32))), .val (.int (p1 &&& (2147483647 : Int32))), .val (.long ((p1 &&& (2147483647 : Int32)).toInt64)), .second, .val (.long ((((p1 &&& (2147483647 : Int32)).toInt64) * (((p1 &&& (2147483647 : Int32)).toInt64) - (1 : Int64))) / (2 : Int64))), .second] [(.int (lcmpW ((((((p1 &&& (2147483647 : Int32)).toInt64) * (((p1 &&& (2147483647 : Int32)) - (1 : Int32)).toInt64)) / (2 : Int64)) + ((0 : Int32).toInt64)) + (0 : Int64)) ((((p1 &&& (2147483647 : Int32)).toInt64) * (((p1 &&& (2147483647 : Int32)).toInt64) - (1 : Int64))) / (2 : Int64))))])) _
                      refine XS.ifYes X173.here hx rfl (pc0 := 158) (pc' := 165) rfl (hb hby at_158) rfl ((if0 _ _).trans (feq hc175).2) (by decide) (by decide) ?_
                      show Steps p.tables e below (T173.setTop (mkF m 165 #[.val (.int p0), .val (.int p1), .val (.ref b71), .val (.int ((p0 &&& (2147483647 : Int32)) % (9 : Int32))), .val (.int (p1 &&& (2147483647 : Int32))), .val (.long ((p1 &&& (2147483647 : Int32)).toInt64)), .second, .val (.long ((((p1 &&& (2147483647 : Int32)).toInt64) * (((p1 &&& (2147483647 : Int32)).toInt64) - (1 : Int64))) / (2 : Int64))), .second] [])) _
                      refine XS.iconst X173.here hx rfl (hb hby at_165) ?_
                      show Steps p.tables e below (T173.setTop (mkF m 166 #[.val (.int p0), .val (.int p1), .val (.ref b71), .val (.int ((p0 &&& (2147483647 : Int32)) % (9 : Int32))), .val (.int (p1 &&& (2147483647 : Int32))), .val (.long ((p1 &&& (2147483647 : Int32)).toInt64)), .second, .val (.long ((((p1 &&& (2147483647 : Int32)).toInt64) * (((p1 &&& (2147483647 : Int32)).toInt64) - (1 : Int64))) / (2 : Int64))), .second] [(.int (0 : Int32))])) _
                      exact retN X173 hx (t := .boolean) Bd.returns (by simp) (hb hby at_166) hr
                    · show Q0 Z w_1 w_2 w_3 w_4 w_5 w_6 w_7 w_8 w_9 p0 p1 h0 n0 _ T173.heap _
                      rw [e173]
                      exact ⟨by unfold sp0; rw [if_neg hc100, if_neg hc129, if_neg hc137, if_neg hc145, if_neg hc153, if_neg hc161, if_neg hc166, if_pos hc171, if_neg hc175], N173, trivial⟩
                · by_cases hc176 : ((p0 &&& (2147483647 : Int32)) % (9 : Int32)) = (6 : Int32)
                  · obtain ⟨cl177, Ar177, qa177, Sa177, Ma177, Ha177, Ga177⟩ := id V_b71_98
                    have hin177 : ¬ (((p0 &&& (2147483647 : Int32)) % (9 : Int32)) < 0 ∨ cl177.slots.size ≤ (((p0 &&& (2147483647 : Int32)) % (9 : Int32))).toNatClampNeg) := by rw [hc176]; exact inb_of Sa177 ⟨by decide, by decide⟩
                    have hat177 : cl177.slots[(((p0 &&& (2147483647 : Int32)) % (9 : Int32))).toNatClampNeg]? = some (.ref w_7) := Has.at Ha177 hin177 (by rw [hc176]; rfl)
                    obtain ⟨cq178, kq178, q178a, q178b, q178c⟩ := isOf hZ e98 (E_7.ext O98.2)
                    obtain ⟨_, _, ⟨T178, L178, k178, n178⟩, -, X178, ⟨Lc178, hQ178, l178, y178, z178⟩, st178⟩ := X98.virtualBack hx (y := Y0) (z := Y0) hown (mvT hZ (hw _ (tk 23 rfl))) (mvT hZ (hw _ (tk 24 rfl))) (notFace_of_selects (args := #[]) (mvT hZ (hw _ (tk 26 rfl)))) (mvT hZ (hw _ (tk 26 rfl))) (mvT hZ (hw _ (tk 25 rfl))) (by decide) (backOf (W := 0) (rm1 l Z a0 hw [] w_1 w_2 w_3 w_4 w_5 w_6 w_7 w_8 w_9 hS0 w_7 (p1 &&& (2147483647 : Int32)) (0 : Int32) (0 : Int32) (1 : Int32) h98 n0 O98 (F_7_belowDiagonal.ext O98.2) (F_7_diagonal.ext O98.2) (F_7_aboveDiagonal.ext O98.2)) hZ (hw _ (tk 27 rfl)) (hw _ (tk 3 rfl)) (by decide) (by decide)) q178a q178c (g := (mkF m 152 #[.val (.int p0), .val (.int p1), .val (.ref b71), .val (.int ((p0 &&& (2147483647 : Int32)) % (9 : Int32))), .val (.int (p1 &&& (2147483647 : Int32))), .val (.long ((p1 &&& (2147483647 : Int32)).toInt64)), .second, .val (.long ((((p1 &&& (2147483647 : Int32)).toInt64) * (((p1 &&& (2147483647 : Int32)).toInt64) - (1 : Int64))) / (2 : Int64))), .second] [(.int (p1 &&& (2147483647 : Int32))), (.ref w_7)])) rfl (by rw [hml]; rfl) (Steps.refl _) (argsL := [(.int (p1 &&& (2147483647 : Int32)))]) (rest := []) (lenOf pd_0 rfl) rfl (by show 2 * 0 + _ ≤ _; exact Nat.le_of_eq rfl) (hb hby at_152) (fun _ _ => ⟨rfl, e98, (by decide : 1 + 0 ≤ _), (by decide : 9 + 0 ≤ _)⟩)
                    dsimp only [Pt.U, Pt.locs, Pt.cells, Pt.slots] at X178 l178 y178 z178 st178 hQ178
                    subst l178 y178 z178
                    obtain ⟨rv178, N178q, e178⟩ := hQ178
                    rw [show sp1 (p1 &&& (2147483647 : Int32)) (0 : Int32) (0 : Int32) (1 : Int32) = (((0 : Int64) + ((0 : Int32).toInt64)) + ((((p1 &&& (2147483647 : Int32)).toInt64) * (((p1 &&& (2147483647 : Int32)) - (1 : Int32)).toInt64)) / (2 : Int64))) from by unfold sp1; rw [if_pos (by decide : ((0 : Int32) = (0 : Int32))), if_pos (by decide : ((0 : Int32) = (0 : Int32))), if_neg (by decide : ¬ ((1 : Int32) = (0 : Int32)))]] at rv178
                    subst rv178
                    have N178 := Fr.app N98 N178q
                    have pre179 : ∀ t, Steps p.tables e below (T178.setTop (mkF m 158 #[.val (.int p0), .val (.int p1), .val (.ref b71), .val (.int ((p0 &&& (2147483647 : Int32)) % (9 : Int32))), .val (.int (p1 &&& (2147483647 : Int32))), .val (.long ((p1 &&& (2147483647 : Int32)).toInt64)), .second, .val (.long ((((p1 &&& (2147483647 : Int32)).toInt64) * (((p1 &&& (2147483647 : Int32)).toInt64) - (1 : Int64))) / (2 : Int64))), .second] [(.int (lcmpW (((0 : Int64) + ((0 : Int32).toInt64)) + ((((p1 &&& (2147483647 : Int32)).toInt64) * (((p1 &&& (2147483647 : Int32)) - (1 : Int32)).toInt64)) / (2 : Int64))) ((((p1 &&& (2147483647 : Int32)).toInt64) * (((p1 &&& (2147483647 : Int32)).toInt64) - (1 : Int64))) / (2 : Int64))))])) t → Steps p.tables e below (s₁.setTop (entryFrame m #[(.int p0), (.int p1)] maxLocals)) t := fun t kt => by
                      refine pre160 t ?_
                      show Steps p.tables e below (T98.setTop (mkF m 149 #[.val (.int p0), .val (.int p1), .val (.ref b71), .val (.int ((p0 &&& (2147483647 : Int32)) % (9 : Int32))), .val (.int (p1 &&& (2147483647 : Int32))), .val (.long ((p1 &&& (2147483647 : Int32)).toInt64)), .second, .val (.long ((((p1 &&& (2147483647 : Int32)).toInt64) * (((p1 &&& (2147483647 : Int32)).toInt64) - (1 : Int64))) / (2 : Int64))), .second] [(.int ((p0 &&& (2147483647 : Int32)) % (9 : Int32))), (.ref b71)])) _
                      refine X98.aaload hx (j := ((p0 &&& (2147483647 : Int32)) % (9 : Int32))) (v := (.ref w_7)) (by rw [e98]; exact Ar177.1) (State.isArrayOf_alike hZ.alike Ar177.2.1) rfl Ar177.2.2 hin177 hat177 (g := (mkF m 149 #[.val (.int p0), .val (.int p1), .val (.ref b71), .val (.int ((p0 &&& (2147483647 : Int32)) % (9 : Int32))), .val (.int (p1 &&& (2147483647 : Int32))), .val (.long ((p1 &&& (2147483647 : Int32)).toInt64)), .second, .val (.long ((((p1 &&& (2147483647 : Int32)).toInt64) * (((p1 &&& (2147483647 : Int32)).toInt64) - (1 : Int64))) / (2 : Int64))), .second] [(.int ((p0 &&& (2147483647 : Int32)) % (9 : Int32))), (.ref b71)])) rfl rfl (hb hby at_149) _ ?_
                      show Steps p.tables e below (T98.setTop (mkF m 150 #[.val (.int p0), .val (.int p1), .val (.ref b71), .val (.int ((p0 &&& (2147483647 : Int32)) % (9 : Int32))), .val (.int (p1 &&& (2147483647 : Int32))), .val (.long ((p1 &&& (2147483647 : Int32)).toInt64)), .second, .val (.long ((((p1 &&& (2147483647 : Int32)).toInt64) * (((p1 &&& (2147483647 : Int32)).toInt64) - (1 : Int64))) / (2 : Int64))), .second] [(.ref w_7)])) _
                      refine XS.iload X98.here hx rfl (hb hby at_150) rfl ?_
                      show Steps p.tables e below (T98.setTop (mkF m 152 #[.val (.int p0), .val (.int p1), .val (.ref b71), .val (.int ((p0 &&& (2147483647 : Int32)) % (9 : Int32))), .val (.int (p1 &&& (2147483647 : Int32))), .val (.long ((p1 &&& (2147483647 : Int32)).toInt64)), .second, .val (.long ((((p1 &&& (2147483647 : Int32)).toInt64) * (((p1 &&& (2147483647 : Int32)).toInt64) - (1 : Int64))) / (2 : Int64))), .second] [(.int (p1 &&& (2147483647 : Int32))), (.ref w_7)])) _
                      refine st178.trans ?_
                      show Steps p.tables e below (T178.setTop (mkF m 155 #[.val (.int p0), .val (.int p1), .val (.ref b71), .val (.int ((p0 &&& (2147483647 : Int32)) % (9 : Int32))), .val (.int (p1 &&& (2147483647 : Int32))), .val (.long ((p1 &&& (2147483647 : Int32)).toInt64)), .second, .val (.long ((((p1 &&& (2147483647 : Int32)).toInt64) * (((p1 &&& (2147483647 : Int32)).toInt64) - (1 : Int64))) / (2 : Int64))), .second] [(.long (((0 : Int64) + ((0 : Int32).toInt64)) + ((((p1 &&& (2147483647 : Int32)).toInt64) * (((p1 &&& (2147483647 : Int32)) - (1 : Int32)).toInt64)) / (2 : Int64))))])) _
                      refine XS.lload X178.here hx rfl (hb hby at_155) rfl ?_
                      show Steps p.tables e below (T178.setTop (mkF m 157 #[.val (.int p0), .val (.int p1), .val (.ref b71), .val (.int ((p0 &&& (2147483647 : Int32)) % (9 : Int32))), .val (.int (p1 &&& (2147483647 : Int32))), .val (.long ((p1 &&& (2147483647 : Int32)).toInt64)), .second, .val (.long ((((p1 &&& (2147483647 : Int32)).toInt64) * (((p1 &&& (2147483647 : Int32)).toInt64) - (1 : Int64))) / (2 : Int64))), .second] [(.long ((((p1 &&& (2147483647 : Int32)).toInt64) * (((p1 &&& (2147483647 : Int32)).toInt64) - (1 : Int64))) / (2 : Int64))), (.long (((0 : Int64) + ((0 : Int32).toInt64)) + ((((p1 &&& (2147483647 : Int32)).toInt64) * (((p1 &&& (2147483647 : Int32)) - (1 : Int32)).toInt64)) / (2 : Int64))))])) _
                      refine XS.lcmp X178.here hx rfl (hb hby at_157) rfl ?_
                      show Steps p.tables e below (T178.setTop (mkF m 158 #[.val (.int p0), .val (.int p1), .val (.ref b71), .val (.int ((p0 &&& (2147483647 : Int32)) % (9 : Int32))), .val (.int (p1 &&& (2147483647 : Int32))), .val (.long ((p1 &&& (2147483647 : Int32)).toInt64)), .second, .val (.long ((((p1 &&& (2147483647 : Int32)).toInt64) * (((p1 &&& (2147483647 : Int32)).toInt64) - (1 : Int64))) / (2 : Int64))), .second] [(.int (lcmpW (((0 : Int64) + ((0 : Int32).toInt64)) + ((((p1 &&& (2147483647 : Int32)).toInt64) * (((p1 &&& (2147483647 : Int32)) - (1 : Int32)).toInt64)) / (2 : Int64))) ((((p1 &&& (2147483647 : Int32)).toInt64) * (((p1 &&& (2147483647 : Int32)).toInt64) - (1 : Int64))) / (2 : Int64))))])) _
                      exact kt
                    by_cases hc180 : (lcmpW (((0 : Int64) + ((0 : Int32).toInt64)) + ((((p1 &&& (2147483647 : Int32)).toInt64) * (((p1 &&& (2147483647 : Int32)) - (1 : Int32)).toInt64)) / (2 : Int64))) ((((p1 &&& (2147483647 : Int32)).toInt64) * (((p1 &&& (2147483647 : Int32)).toInt64) - (1 : Int64))) / (2 : Int64))) = (0 : Int32)
                    · obtain ⟨fs, hr, hrun, hended, hW, hsame⟩ := X178.leave (v := some (.int (1 : Int32))) (fun h => by rw [Bd.returns] at h; cases h)
                      refine ⟨_, _, pre179 _ ?_, hrun, hended, _, _, rfl, ?_, ⟨_, rfl⟩, hW, hsame.mono (by decide) (by decide)⟩
                      · show Steps p.tables e below (T178.setTop (mkF m 158 #[.val (.int p0), .val (.int p1), .val (.ref b71), .val (.int ((p0 &&& (2147483647 : Int32)) % (9 : Int32))), .val (.int (p1 &&& (2147483647 : Int32))), .val (.long ((p1 &&& (2147483647 : Int32)).toInt64)), .second, .val (.long ((((p1 &&& (2147483647 : Int32)).toInt64) * (((p1 &&& (2147483647 : Int32)).toInt64) - (1 : Int64))) / (2 : Int64))), .second] [(.int (lcmpW (((0 : Int64) + ((0 : Int32).toInt64)) + ((((p1 &&& (2147483647 : Int32)).toInt64) * (((p1 &&& (2147483647 : Int32)) - (1 : Int32)).toInt64)) / (2 : Int64))) ((((p1 &&& (2147483647 : Int32)).toInt64) * (((p1 &&& (2147483647 : Int32)).toInt64) - (1 : Int64))) / (2 : Int64))))])) _
                        refine XS.ifNo X178.here hx rfl (hb hby at_158) rfl ((if0 _ _).trans (teq hc180).2) ?_
                        show Steps p.tables e below (T178.setTop (mkF m 161 #[.val (.int p0), .val (.int p1), .val (.ref b71), .val (.int ((p0 &&& (2147483647 : Int32)) % (9 : Int32))), .val (.int (p1 &&& (2147483647 : Int32))), .val (.long ((p1 &&& (2147483647 : Int32)).toInt64)), .second, .val (.long ((((p1 &&& (2147483647 : Int32)).toInt64) * (((p1 &&& (2147483647 : Int32)).toInt64) - (1 : Int64))) / (2 : Int64))), .second] [])) _
                        refine XS.iconst X178.here hx rfl (hb hby at_161) ?_
                        show Steps p.tables e below (T178.setTop (mkF m 162 #[.val (.int p0), .val (.int p1), .val (.ref b71), .val (.int ((p0 &&& (2147483647 : Int32)) % (9 : Int32))), .val (.int (p1 &&& (2147483647 : Int32))), .val (.long ((p1 &&& (2147483647 : Int32)).toInt64)), .second, .val (.long ((((p1 &&& (2147483647 : Int32)).toInt64) * (((p1 &&& (2147483647 : Int32)).toInt64) - (1 : Int64))) / (2 : Int64))), .second] [(.int (1 : Int32))])) _
                        refine XS.goto X178.here hx rfl (pc0 := 162) (pc' := 166) rfl (hb hby at_162) (by decide) (by decide) ?_
                        show Steps p.tables e below (T178.setTop (mkF m 166 #[.val (.int p0), .val (.int p1), .val (.ref b71), .val (.int ((p0 &&& (2147483647 : Int32)) % (9 : Int32))), .val (.int (p1 &&& (2147483647 : Int32))), .val (.long ((p1 &&& (2147483647 : Int32)).toInt64)), .second, .val (.long ((((p1 &&& (2147483647 : Int32)).toInt64) * (((p1 &&& (2147483647 : Int32)).toInt64) - (1 : Int64))) / (2 : Int64))), .second] [(.int (1 : Int32))])) _
                        exact retN X178 hx (t := .boolean) Bd.returns (by simp) (hb hby at_166) hr
                      · show Q0 Z w_1 w_2 w_3 w_4 w_5 w_6 w_7 w_8 w_9 p0 p1 h0 n0 _ T178.heap _
                        rw [e178]
                        exact ⟨by unfold sp0; rw [if_neg hc100, if_neg hc129, if_neg hc137, if_neg hc145, if_neg hc153, if_neg hc161, if_neg hc166, if_neg hc171, if_pos hc176, if_pos hc180], N178, trivial⟩
                    · obtain ⟨fs, hr, hrun, hended, hW, hsame⟩ := X178.leave (v := some (.int (0 : Int32))) (fun h => by rw [Bd.returns] at h; cases h)
                      refine ⟨_, _, pre179 _ ?_, hrun, hended, _, _, rfl, ?_, ⟨_, rfl⟩, hW, hsame.mono (by decide) (by decide)⟩
                      · show Steps p.tables e below (T178.setTop (mkF m 158 #[.val (.int p0), .val (.int p1), .val (.ref b71), .val (.int ((p0 &&& (2147483647 : Int32)) % (9 : Int32))), .val (.int (p1 &&& (2147483647 : Int32))), .val (.long ((p1 &&& (2147483647 : Int32)).toInt64)), .second, .val (.long ((((p1 &&& (2147483647 : Int32)).toInt64) * (((p1 &&& (2147483647 : Int32)).toInt64) - (1 : Int64))) / (2 : Int64))), .second] [(.int (lcmpW (((0 : Int64) + ((0 : Int32).toInt64)) + ((((p1 &&& (2147483647 : Int32)).toInt64) * (((p1 &&& (2147483647 : Int32)) - (1 : Int32)).toInt64)) / (2 : Int64))) ((((p1 &&& (2147483647 : Int32)).toInt64) * (((p1 &&& (2147483647 : Int32)).toInt64) - (1 : Int64))) / (2 : Int64))))])) _
                        refine XS.ifYes X178.here hx rfl (pc0 := 158) (pc' := 165) rfl (hb hby at_158) rfl ((if0 _ _).trans (feq hc180).2) (by decide) (by decide) ?_
                        show Steps p.tables e below (T178.setTop (mkF m 165 #[.val (.int p0), .val (.int p1), .val (.ref b71), .val (.int ((p0 &&& (2147483647 : Int32)) % (9 : Int32))), .val (.int (p1 &&& (2147483647 : Int32))), .val (.long ((p1 &&& (2147483647 : Int32)).toInt64)), .second, .val (.long ((((p1 &&& (2147483647 : Int32)).toInt64) * (((p1 &&& (2147483647 : Int32)).toInt64) - (1 : Int64))) / (2 : Int64))), .second] [])) _
                        refine XS.iconst X178.here hx rfl (hb hby at_165) ?_
                        show Steps p.tables e below (T178.setTop (mkF m 166 #[.val (.int p0), .val (.int p1), .val (.ref b71), .val (.int ((p0 &&& (2147483647 : Int32)) % (9 : Int32))), .val (.int (p1 &&& (2147483647 : Int32))), .val (.long ((p1 &&& (2147483647 : Int32)).toInt64)), .second, .val (.long ((((p1 &&& (2147483647 : Int32)).toInt64) * (((p1 &&& (2147483647 : Int32)).toInt64) - (1 : Int64))) / (2 : Int64))), .second] [(.int (0 : Int32))])) _
                        exact retN X178 hx (t := .boolean) Bd.returns (by simp) (hb hby at_166) hr
                      · show Q0 Z w_1 w_2 w_3 w_4 w_5 w_6 w_7 w_8 w_9 p0 p1 h0 n0 _ T178.heap _
                        rw [e178]
                        exact ⟨by unfold sp0; rw [if_neg hc100, if_neg hc129, if_neg hc137, if_neg hc145, if_neg hc153, if_neg hc161, if_neg hc166, if_neg hc171, if_pos hc176, if_neg hc180], N178, trivial⟩
                  · have hL181 : ((p0 &&& (2147483647 : Int32)) % (9 : Int32)) = (8 : Int32) := by
                      have r : 0 ≤ (((p0 &&& (2147483647 : Int32)) % (9 : Int32))).toInt ∧ (((p0 &&& (2147483647 : Int32)) % (9 : Int32))).toInt < 9 := (own_rrem (p0 &&& (2147483647 : Int32)) (9 : Int32) 9 ((own_rand p0 (2147483647 : Int32) 2147483648 (by decide) (by decide))).1 (by decide) (by decide))
                      have q0 := own_ne hc100 (n := 0) (by decide)
                      have q1 := own_ne hc161 (n := 1) (by decide)
                      have q2 := own_ne hc166 (n := 2) (by decide)
                      have q3 := own_ne hc129 (n := 3) (by decide)
                      have q4 := own_ne hc137 (n := 4) (by decide)
                      have q5 := own_ne hc171 (n := 5) (by decide)
                      have q6 := own_ne hc176 (n := 6) (by decide)
                      have q7 := own_ne hc145 (n := 7) (by decide)
                      exact own_eq (n := 8) (by decide) (by omega)
                    exact absurd hL181 hc153
theorem own_sq (N : Int) (h0 : 0 ≤ N) (h1 : N < 2147483648) : 0 ≤ N * N ∧ N * N ≤ 4611686014132420609 ∧ N ≤ N * N ∧ (N * N - N) % 2 = 0 := by
  have a : N * N ≤ 2147483647 * 2147483647 := Int.mul_le_mul (by omega) (by omega) h0 (by omega)
  have b : 0 ≤ N * N := Int.mul_nonneg h0 h0
  have c : N ≤ N * N := by
    rcases (by omega : N = 0 ∨ 1 ≤ N) with h | h
    · subst h; decide
    · have := Int.mul_le_mul_of_nonneg_right h h0; omega
  refine ⟨b, by omega, c, ?_⟩
  rcases (by omega : N % 2 = 0 ∨ N % 2 = 1) with h | h
  · obtain ⟨k, rfl⟩ : ∃ k, N = 2 * k := ⟨N / 2, by omega⟩
    rw [Int.mul_assoc]; omega
  · obtain ⟨k, rfl⟩ : ∃ k, N = 2 * k + 1 := ⟨N / 2, by omega⟩
    rw [Int.add_mul, Int.mul_assoc]; omega
theorem own_nums (n : Int32) (h0 : 0 ≤ n.toInt) : ∃ S P : Int, S = 2 * P + n.toInt ∧ 0 ≤ P ∧ P ≤ 2305843009213693952 ∧ n.toInt < 2147483648 ∧
    (n.toInt64 * n.toInt64).toInt = S ∧ ((n.toInt64 * (n - 1).toInt64) / 2).toInt = P ∧ ((n.toInt64 * (n.toInt64 + 1)) / 2).toInt = P + n.toInt ∧ n.toInt64.toInt = n.toInt ∧ ((n.toInt64 * (n.toInt64 - 1)) / 2).toInt = P := by
  have hr := rng32 n
  obtain ⟨q1, q2, q3, q4⟩ := own_sq n.toInt h0 hr.2
  have w1 : n.toInt64.toInt = n.toInt := c_i2l n
  have w2 : (n - 1).toInt = n.toInt - 1 := by
    have := c_isub n 1
    have := rng32 (n - 1)
    have e1 : (1 : Int32).toInt = 1 := by decide
    omega
  have w3 : (n - 1).toInt64.toInt = n.toInt - 1 := by rw [c_i2l, w2]
  have m1 : n.toInt * (n.toInt - 1) = n.toInt * n.toInt - n.toInt := by rw [Int.mul_sub, Int.mul_one]
  have m2 : n.toInt * (n.toInt + 1) = n.toInt * n.toInt + n.toInt := by rw [Int.mul_add, Int.mul_one]
  have x1 : (n.toInt64 * n.toInt64).toInt = n.toInt * n.toInt := by
    have a := c_lmul n.toInt64 n.toInt64
    have b := rng64 (n.toInt64 * n.toInt64)
    rw [w1] at a; omega
  have x2 : (n.toInt64 * (n - 1).toInt64).toInt = n.toInt * n.toInt - n.toInt := by
    have a := c_lmul n.toInt64 (n - 1).toInt64
    have b := rng64 (n.toInt64 * (n - 1).toInt64)
    rw [w1, w3, m1] at a; omega
  have w4 : (n.toInt64 + 1).toInt = n.toInt + 1 := by
    have a := c_ladd n.toInt64 1
    have b := rng64 (n.toInt64 + 1)
    have e1 : (1 : Int64).toInt = 1 := by decide
    rw [w1, e1] at a; omega
  have x3 : (n.toInt64 * (n.toInt64 + 1)).toInt = n.toInt * n.toInt + n.toInt := by
    have a := c_lmul n.toInt64 (n.toInt64 + 1)
    have b := rng64 (n.toInt64 * (n.toInt64 + 1))
    rw [w1, w4, m2] at a; omega
  have w5 : (n.toInt64 - 1).toInt = n.toInt - 1 := by
    have a := c_lsub n.toInt64 1
    have b := rng64 (n.toInt64 - 1)
    have e1 : (1 : Int64).toInt = 1 := by decide
    rw [w1, e1] at a; omega
  have x4 : (n.toInt64 * (n.toInt64 - 1)).toInt = n.toInt * n.toInt - n.toInt := by
    have a := c_lmul n.toInt64 (n.toInt64 - 1)
    have b := rng64 (n.toInt64 * (n.toInt64 - 1))
    rw [w1, w5, m1] at a; omega
  have y4 := (c_ldiv (n.toInt64 * (n.toInt64 - 1)) 2 2 (by decide) (by decide)).1 (by rw [x4]; omega)
  rw [x4] at y4
  have y2 := (c_ldiv (n.toInt64 * (n - 1).toInt64) 2 2 (by decide) (by decide)).1 (by rw [x2]; omega)
  have y3 := (c_ldiv (n.toInt64 * (n.toInt64 + 1)) 2 2 (by decide) (by decide)).1 (by rw [x3]; omega)
  rw [x2] at y2
  rw [x3] at y3
  exact ⟨n.toInt * n.toInt, (n.toInt * n.toInt - n.toInt) / 2, by omega, by omega, by omega, hr.2, x1, y2, by rw [y3]; omega, w1, y4⟩
theorem own_ladd {x y : Int64} {a b : Int} (h1 : x.toInt = a) (h2 : y.toInt = b) (l : -9223372036854775808 ≤ a + b) (u : a + b < 9223372036854775808) : (x + y).toInt = a + b := by
  have p := c_ladd x y
  have q := rng64 (x + y)
  rw [h1, h2] at p; omega
theorem own_lc {x y : Int64} {a : Int} (h1 : x.toInt = a) (h2 : y.toInt = a) : lcmpW x y = 0 := (lw_eq x y).mpr (Int64.toInt_inj.mp (h1.trans h2.symm))
theorem own_full (n : Int32) (h0 : 0 ≤ n.toInt) : lcmpW ((((n.toInt64 * (n - 1).toInt64) / 2) + n.toInt64) + ((n.toInt64 * (n - 1).toInt64) / 2)) (n.toInt64 * n.toInt64) = 0 := by
  obtain ⟨S, P, e1, e2, e3, e4, a, b, c, d, f⟩ := own_nums n h0
  have t1 := own_ladd b d (by omega) (by omega)
  have t2 := own_ladd t1 b (by omega) (by omega)
  exact own_lc (t2.trans (by omega)) a
theorem own_upd (n : Int32) (h0 : 0 ≤ n.toInt) : lcmpW (((0 : Int64) + n.toInt64) + ((n.toInt64 * (n - 1).toInt64) / 2)) ((n.toInt64 * (n.toInt64 + 1)) / 2) = 0 := by
  obtain ⟨S, P, e1, e2, e3, e4, a, b, c, d, f⟩ := own_nums n h0
  have t1 := own_ladd (by decide : (0 : Int64).toInt = 0) d (by omega) (by omega)
  have t2 := own_ladd t1 b (by omega) (by omega)
  exact own_lc (t2.trans (by omega)) c
theorem own_lod (n : Int32) (h0 : 0 ≤ n.toInt) : lcmpW ((((n.toInt64 * (n - 1).toInt64) / 2) + n.toInt64) + (0 : Int64)) ((n.toInt64 * (n.toInt64 + 1)) / 2) = 0 := by
  obtain ⟨S, P, e1, e2, e3, e4, a, b, c, d, f⟩ := own_nums n h0
  have t1 := own_ladd b d (by omega) (by omega)
  have t2 := own_ladd t1 (by decide : (0 : Int64).toInt = 0) (by omega) (by omega)
  exact own_lc (t2.trans (by omega)) c
theorem own_upm (n : Int32) (h0 : 0 ≤ n.toInt) : lcmpW (((0 : Int64) + (0 : Int32).toInt64) + ((n.toInt64 * (n - 1).toInt64) / 2)) ((n.toInt64 * (n.toInt64 - 1)) / 2) = 0 := by
  obtain ⟨S, P, e1, e2, e3, e4, a, b, c, d, f⟩ := own_nums n h0
  have t1 := own_ladd (by decide : (0 : Int64).toInt = 0) (by decide : (0 : Int32).toInt64.toInt = 0) (by omega) (by omega)
  have t2 := own_ladd t1 b (by omega) (by omega)
  exact own_lc (t2.trans (by omega)) f
theorem own_lom (n : Int32) (h0 : 0 ≤ n.toInt) : lcmpW ((((n.toInt64 * (n - 1).toInt64) / 2) + (0 : Int32).toInt64) + (0 : Int64)) ((n.toInt64 * (n.toInt64 - 1)) / 2) = 0 := by
  obtain ⟨S, P, e1, e2, e3, e4, a, b, c, d, f⟩ := own_nums n h0
  have t1 := own_ladd b (by decide : (0 : Int32).toInt64.toInt = 0) (by omega) (by omega)
  have t2 := own_ladd t1 (by decide : (0 : Int64).toInt = 0) (by omega) (by omega)
  exact own_lc (t2.trans (by omega)) f

theorem own_plain (p0 : Int32) (p1 : Int32) : sp0 p0 p1 = (1 : Int32) := by
  unfold sp0
  have a0 := (own_rand p1 (2147483647 : Int32) 2147483648 (by decide) (by decide)).1
  have r := own_rrem (p0 &&& (2147483647 : Int32)) (9 : Int32) 9 (own_rand p0 (2147483647 : Int32) 2147483648 (by decide) (by decide)).1 (by decide) (by decide)
  generalize (p1 &&& (2147483647 : Int32)) = n at *
  generalize ((p0 &&& (2147483647 : Int32)) % (9 : Int32)) = k at *
  simp only [own_full n a0, own_upd n a0, own_lod n a0, own_upm n a0, own_lom n a0, if_true]
  have q : k.toInt = 0 ∨ k.toInt = 1 ∨ k.toInt = 2 ∨ k.toInt = 3 ∨ k.toInt = 4 ∨ k.toInt = 5 ∨ k.toInt = 6 ∨ k.toInt = 7 ∨ k.toInt = 8 := by omega
  rcases q with q | q | q | q | q | q | q | q | q
  · obtain rfl : k = 0 := own_eq (n := 0) (by decide) q
    rfl
  · obtain rfl : k = 1 := own_eq (n := 1) (by decide) q
    rfl
  · obtain rfl : k = 2 := own_eq (n := 2) (by decide) q
    rfl
  · obtain rfl : k = 3 := own_eq (n := 3) (by decide) q
    rfl
  · obtain rfl : k = 4 := own_eq (n := 4) (by decide) q
    rfl
  · obtain rfl : k = 5 := own_eq (n := 5) (by decide) q
    rfl
  · obtain rfl : k = 6 := own_eq (n := 6) (by decide) q
    rfl
  · obtain rfl : k = 7 := own_eq (n := 7) (by decide) q
    rfl
  · obtain rfl : k = 8 := own_eq (n := 8) (by decide) q
    rfl
set_option maxRecDepth 65536 in
set_option maxHeartbeats 40000000 in
theorem comes_1 {Post : Tables → Env → Array Value → State → Outcome → State → Prop} (hpost : ∀ tb e args s v u, (limb_1_1.after args s (.returned v) u = true ∧ limb_1_2.after args s (.returned v) u = true ∧ True) → FrameEnd s (.returned v) u (Jvm.fieldLocs frame_1_writes args s ++ Jvm.arrayLocs frame_1_arrays args s ++ Jvm.staticLocs frame_1_statics s) 16 128 → Post tb e args s (.returned v) u) :
    ArmFor flags0 classFile x code maxLocals ret World_1 tables_1 room_1 Calls_1 rest_1 Pre_1 Post := by
  intro l hfl _ _ p e ha hc hk s m args below hf hA hF happ hP
  obtain ⟨hcalls, hrest, hpre⟩ := hP
  obtain ⟨-, -, -, hnamed, -, -, -, hat⟩ := (Spec.applies_iff hf).mp happ
  obtain ⟨hg, hn⟩ := and_e (Cond.before_iff.mp (show (Jvm.Cond.and given_1 narrow_1).before args s = true from hpre))
  obtain ⟨g182, g183⟩ := and_e hg
  obtain ⟨g184, g185⟩ := and_e g183
  obtain ⟨w0, w1, rfl⟩ : ∃ w0 w1 : Value, args = #[w0, w1] := by
    have hs : args.size = 2 := by simpa [Cond.value, given_1] using g182
    obtain ⟨L⟩ := args
    match L, hs with
    | [w0, w1], _ => exact ⟨w0, w1, rfl⟩
  have hw := fun d (hd : d ∈ tables_1) => atoms_spec (ws := Jvm.Cond.code x code maxLocals ret :: tables_1) hat d (List.mem_cons_of_mem _ hd)
  have hfit : Fit s := fun {y c} hc i hi => by
    obtain ⟨ha, rfl⟩ := Array.getElem?_eq_some_iff.mp hc
    have q := List.all_eq_true.mp ((Array.all_eq_true_iff_forall_mem.mp hF) _ (Array.getElem_mem ha)) i (List.mem_range.mpr hi)
    simpa [Array.getElem?_eq_getElem hi] using q
  obtain ⟨i0, ei0⟩ := is_v g184
  obtain rfl : w0 = (.int i0) := Option.some.inj ei0
  obtain ⟨i1, ei1⟩ := is_v g185
  obtain rfl : w1 = (.int i1) := Option.some.inj ei1
  obtain ⟨n1, n2⟩ := and_e hn
  obtain ⟨n3, n4⟩ := and_e n2
  obtain ⟨n5, n6⟩ := and_e n4
  obtain ⟨n7, n8⟩ := and_e n6
  obtain ⟨n9, n10⟩ := and_e n8
  obtain ⟨n11, n12⟩ := and_e n10
  obtain ⟨n13, n14⟩ := and_e n12
  obtain ⟨n15, n16⟩ := and_e n14
  obtain ⟨n17, n18⟩ := and_e n16
  obtain ⟨n19, n20⟩ := and_e n18
  obtain ⟨n21, n22⟩ := and_e n20
  obtain ⟨n23, n24⟩ := and_e n22
  obtain ⟨n25, n26⟩ := and_e n24
  obtain ⟨n27, n28⟩ := and_e n26
  obtain ⟨n29, n30⟩ := and_e n28
  obtain ⟨n31, n32⟩ := and_e n30
  obtain ⟨n33, n34⟩ := and_e n32
  obtain ⟨n35, n36⟩ := and_e n34
  obtain ⟨n37, n38⟩ := and_e n36
  obtain ⟨n39, n40⟩ := and_e n38
  obtain ⟨n41, n42⟩ := and_e n40
  obtain ⟨n43, n44⟩ := and_e n42
  obtain ⟨n45, n46⟩ := and_e n44
  obtain ⟨n47, n48⟩ := and_e n46
  obtain ⟨n49, n50⟩ := and_e n48
  obtain ⟨n51, n52⟩ := and_e n50
  obtain ⟨n53, n54⟩ := and_e n52
  obtain ⟨n55, n56⟩ := and_e n54
  obtain ⟨n57, n58⟩ := and_e n56
  obtain ⟨n59, n60⟩ := and_e n58
  obtain ⟨n61, n62⟩ := and_e n60
  obtain ⟨n63, n64⟩ := and_e n62
  obtain ⟨n65, n66⟩ := and_e n64
  obtain ⟨n67, n68⟩ := and_e n66
  obtain ⟨n69, n70⟩ := and_e n68
  obtain ⟨w_1, ew_1⟩ := exa_v n1
  have S_1 : Sta s s.heap "com/example/onetree/onetree/EdgeWeightFormat" "FULL_MATRIX" "Lcom/example/onetree/onetree/EdgeWeightFormat;" (.ref w_1) := Sta.start ew_1 (Or.inr ⟨(hw _ (tk 3 rfl)), (hw _ (tk 4 rfl))⟩)
  have E_1 : Exa s s.heap w_1 "com/example/onetree/onetree/EdgeWeightFormat" := Exa.start ew_1 n1
  obtain ⟨w_2, ew_2⟩ := exa_v n3
  have S_2 : Sta s s.heap "com/example/onetree/onetree/EdgeWeightFormat" "UPPER_ROW" "Lcom/example/onetree/onetree/EdgeWeightFormat;" (.ref w_2) := Sta.start ew_2 (Or.inr ⟨(hw _ (tk 3 rfl)), (hw _ (tk 7 rfl))⟩)
  have E_2 : Exa s s.heap w_2 "com/example/onetree/onetree/EdgeWeightFormat" := Exa.start ew_2 n3
  obtain ⟨w_3, ew_3⟩ := exa_v n5
  have S_3 : Sta s s.heap "com/example/onetree/onetree/EdgeWeightFormat" "LOWER_ROW" "Lcom/example/onetree/onetree/EdgeWeightFormat;" (.ref w_3) := Sta.start ew_3 (Or.inr ⟨(hw _ (tk 3 rfl)), (hw _ (tk 9 rfl))⟩)
  have E_3 : Exa s s.heap w_3 "com/example/onetree/onetree/EdgeWeightFormat" := Exa.start ew_3 n5
  obtain ⟨w_4, ew_4⟩ := exa_v n7
  have S_4 : Sta s s.heap "com/example/onetree/onetree/EdgeWeightFormat" "UPPER_DIAG_ROW" "Lcom/example/onetree/onetree/EdgeWeightFormat;" (.ref w_4) := Sta.start ew_4 (Or.inr ⟨(hw _ (tk 3 rfl)), (hw _ (tk 11 rfl))⟩)
  have E_4 : Exa s s.heap w_4 "com/example/onetree/onetree/EdgeWeightFormat" := Exa.start ew_4 n7
  obtain ⟨w_5, ew_5⟩ := exa_v n9
  have S_5 : Sta s s.heap "com/example/onetree/onetree/EdgeWeightFormat" "LOWER_DIAG_ROW" "Lcom/example/onetree/onetree/EdgeWeightFormat;" (.ref w_5) := Sta.start ew_5 (Or.inr ⟨(hw _ (tk 3 rfl)), (hw _ (tk 13 rfl))⟩)
  have E_5 : Exa s s.heap w_5 "com/example/onetree/onetree/EdgeWeightFormat" := Exa.start ew_5 n9
  obtain ⟨w_6, ew_6⟩ := exa_v n11
  have S_6 : Sta s s.heap "com/example/onetree/onetree/EdgeWeightFormat" "UPPER_COL" "Lcom/example/onetree/onetree/EdgeWeightFormat;" (.ref w_6) := Sta.start ew_6 (Or.inr ⟨(hw _ (tk 3 rfl)), (hw _ (tk 15 rfl))⟩)
  have E_6 : Exa s s.heap w_6 "com/example/onetree/onetree/EdgeWeightFormat" := Exa.start ew_6 n11
  obtain ⟨w_7, ew_7⟩ := exa_v n13
  have S_7 : Sta s s.heap "com/example/onetree/onetree/EdgeWeightFormat" "LOWER_COL" "Lcom/example/onetree/onetree/EdgeWeightFormat;" (.ref w_7) := Sta.start ew_7 (Or.inr ⟨(hw _ (tk 3 rfl)), (hw _ (tk 17 rfl))⟩)
  have E_7 : Exa s s.heap w_7 "com/example/onetree/onetree/EdgeWeightFormat" := Exa.start ew_7 n13
  obtain ⟨w_8, ew_8⟩ := exa_v n15
  have S_8 : Sta s s.heap "com/example/onetree/onetree/EdgeWeightFormat" "UPPER_DIAG_COL" "Lcom/example/onetree/onetree/EdgeWeightFormat;" (.ref w_8) := Sta.start ew_8 (Or.inr ⟨(hw _ (tk 3 rfl)), (hw _ (tk 19 rfl))⟩)
  have E_8 : Exa s s.heap w_8 "com/example/onetree/onetree/EdgeWeightFormat" := Exa.start ew_8 n15
  obtain ⟨w_9, ew_9⟩ := exa_v n17
  have S_9 : Sta s s.heap "com/example/onetree/onetree/EdgeWeightFormat" "LOWER_DIAG_COL" "Lcom/example/onetree/onetree/EdgeWeightFormat;" (.ref w_9) := Sta.start ew_9 (Or.inr ⟨(hw _ (tk 3 rfl)), (hw _ (tk 21 rfl))⟩)
  have E_9 : Exa s s.heap w_9 "com/example/onetree/onetree/EdgeWeightFormat" := Exa.start ew_9 n17
  have F_1_belowDiagonal : Fld s s.heap w_1 "com/example/onetree/onetree/EdgeWeightFormat" "belowDiagonal" "Z" (.int (1 : Int32)) := own_fld ew_1 n19
  have F_1_diagonal : Fld s s.heap w_1 "com/example/onetree/onetree/EdgeWeightFormat" "diagonal" "Z" (.int (1 : Int32)) := own_fld ew_1 n21
  have F_1_aboveDiagonal : Fld s s.heap w_1 "com/example/onetree/onetree/EdgeWeightFormat" "aboveDiagonal" "Z" (.int (1 : Int32)) := own_fld ew_1 n23
  have F_6_belowDiagonal : Fld s s.heap w_6 "com/example/onetree/onetree/EdgeWeightFormat" "belowDiagonal" "Z" (.int (1 : Int32)) := own_fld ew_6 n25
  have F_6_diagonal : Fld s s.heap w_6 "com/example/onetree/onetree/EdgeWeightFormat" "diagonal" "Z" (.int (0 : Int32)) := own_fld ew_6 n27
  have F_6_aboveDiagonal : Fld s s.heap w_6 "com/example/onetree/onetree/EdgeWeightFormat" "aboveDiagonal" "Z" (.int (0 : Int32)) := own_fld ew_6 n29
  have F_5_belowDiagonal : Fld s s.heap w_5 "com/example/onetree/onetree/EdgeWeightFormat" "belowDiagonal" "Z" (.int (1 : Int32)) := own_fld ew_5 n31
  have F_5_diagonal : Fld s s.heap w_5 "com/example/onetree/onetree/EdgeWeightFormat" "diagonal" "Z" (.int (1 : Int32)) := own_fld ew_5 n33
  have F_5_aboveDiagonal : Fld s s.heap w_5 "com/example/onetree/onetree/EdgeWeightFormat" "aboveDiagonal" "Z" (.int (0 : Int32)) := own_fld ew_5 n35
  have F_2_belowDiagonal : Fld s s.heap w_2 "com/example/onetree/onetree/EdgeWeightFormat" "belowDiagonal" "Z" (.int (0 : Int32)) := own_fld ew_2 n37
  have F_2_diagonal : Fld s s.heap w_2 "com/example/onetree/onetree/EdgeWeightFormat" "diagonal" "Z" (.int (0 : Int32)) := own_fld ew_2 n39
  have F_2_aboveDiagonal : Fld s s.heap w_2 "com/example/onetree/onetree/EdgeWeightFormat" "aboveDiagonal" "Z" (.int (1 : Int32)) := own_fld ew_2 n41
  have F_7_belowDiagonal : Fld s s.heap w_7 "com/example/onetree/onetree/EdgeWeightFormat" "belowDiagonal" "Z" (.int (0 : Int32)) := own_fld ew_7 n43
  have F_7_diagonal : Fld s s.heap w_7 "com/example/onetree/onetree/EdgeWeightFormat" "diagonal" "Z" (.int (0 : Int32)) := own_fld ew_7 n45
  have F_7_aboveDiagonal : Fld s s.heap w_7 "com/example/onetree/onetree/EdgeWeightFormat" "aboveDiagonal" "Z" (.int (1 : Int32)) := own_fld ew_7 n47
  have F_9_belowDiagonal : Fld s s.heap w_9 "com/example/onetree/onetree/EdgeWeightFormat" "belowDiagonal" "Z" (.int (0 : Int32)) := own_fld ew_9 n49
  have F_9_diagonal : Fld s s.heap w_9 "com/example/onetree/onetree/EdgeWeightFormat" "diagonal" "Z" (.int (1 : Int32)) := own_fld ew_9 n51
  have F_9_aboveDiagonal : Fld s s.heap w_9 "com/example/onetree/onetree/EdgeWeightFormat" "aboveDiagonal" "Z" (.int (1 : Int32)) := own_fld ew_9 n53
  have F_4_belowDiagonal : Fld s s.heap w_4 "com/example/onetree/onetree/EdgeWeightFormat" "belowDiagonal" "Z" (.int (0 : Int32)) := own_fld ew_4 n55
  have F_4_diagonal : Fld s s.heap w_4 "com/example/onetree/onetree/EdgeWeightFormat" "diagonal" "Z" (.int (1 : Int32)) := own_fld ew_4 n57
  have F_4_aboveDiagonal : Fld s s.heap w_4 "com/example/onetree/onetree/EdgeWeightFormat" "aboveDiagonal" "Z" (.int (1 : Int32)) := own_fld ew_4 n59
  have F_3_belowDiagonal : Fld s s.heap w_3 "com/example/onetree/onetree/EdgeWeightFormat" "belowDiagonal" "Z" (.int (1 : Int32)) := own_fld ew_3 n61
  have F_3_diagonal : Fld s s.heap w_3 "com/example/onetree/onetree/EdgeWeightFormat" "diagonal" "Z" (.int (0 : Int32)) := own_fld ew_3 n63
  have F_3_aboveDiagonal : Fld s s.heap w_3 "com/example/onetree/onetree/EdgeWeightFormat" "aboveDiagonal" "Z" (.int (0 : Int32)) := own_fld ew_3 n65
  have F_8_belowDiagonal : Fld s s.heap w_8 "com/example/onetree/onetree/EdgeWeightFormat" "belowDiagonal" "Z" (.int (1 : Int32)) := own_fld ew_8 n67
  have F_8_diagonal : Fld s s.heap w_8 "com/example/onetree/onetree/EdgeWeightFormat" "diagonal" "Z" (.int (1 : Int32)) := own_fld ew_8 n69
  have F_8_aboveDiagonal : Fld s s.heap w_8 "com/example/onetree/onetree/EdgeWeightFormat" "aboveDiagonal" "Z" (.int (0 : Int32)) := own_fld ew_8 n70
  have hS : StF s w_1 w_2 w_3 w_4 w_5 w_6 w_7 w_8 w_9 := ⟨S_1, E_1, S_2, E_2, S_3, E_3, S_4, E_4, S_5, E_5, S_6, E_6, S_7, E_7, S_8, E_8, S_9, E_9, F_1_belowDiagonal, F_1_diagonal, F_1_aboveDiagonal, F_6_belowDiagonal, F_6_diagonal, F_6_aboveDiagonal, F_5_belowDiagonal, F_5_diagonal, F_5_aboveDiagonal, F_2_belowDiagonal, F_2_diagonal, F_2_aboveDiagonal, F_7_belowDiagonal, F_7_diagonal, F_7_aboveDiagonal, F_9_belowDiagonal, F_9_diagonal, F_9_aboveDiagonal, F_4_belowDiagonal, F_4_diagonal, F_4_aboveDiagonal, F_3_belowDiagonal, F_3_diagonal, F_3_aboveDiagonal, F_8_belowDiagonal, F_8_diagonal, F_8_aboveDiagonal⟩
  obtain ⟨n, o, h1, h2, h3, _, L, rfl, ⟨hv, N, -⟩, hq⟩ := rm0 l s _ hw tables_1 w_1 w_2 w_3 w_4 w_5 w_6 w_7 w_8 w_9 hS i0 i1 s.heap s.heap.size (Old.start s) p e ha hc hk s m _ below hf ((Spec.applies_iff_loose hf).mp happ).1 ⟨rfl, State.Warmed39.refl s, rfl⟩ trivial
  rw [own_plain i0 i1] at hv
  subst hv
  refine ⟨n, _, h1, h2, h3, hpost _ _ _ _ _ _ ⟨Cond.after_iff.mpr rfl, Cond.after_iff.mpr (eq_i res_at (Term.int_eval (1)) rfl), trivial⟩ ⟨hq.1, hq.2.1, (hq.2.2.sift fun y hy => Or.inr (N y hy)).mono (by decide) (by decide)⟩⟩
theorem main_1_1 : Claimed_1_1 := comes_1 fun _ _ _ _ _ _ h hF => ⟨h.1, hF⟩
theorem main_1_2 : Claimed_1_2 := comes_1 fun _ _ _ _ _ _ h hF => ⟨h.2.1, hF⟩
end Jvm.Pilot.@@N@@
namespace Jvm.Pilot.@@N@@
open Jvm Jvm.ClassFile Sem Op Lib Jvm.Free Jvm.Stand Jvm.Pilot.@@N@@.Jvm.D
/-! MADE BY PROGRAM (witnessworld.py) out of the Statement's table words and the real class files: 13 classes; the members and pool entries that the words name. The judged class is class 1, her method 1. -/
namespace start1
open Jvm.ClassFile
def u (s : String) : CpInfo := .utf8 (stringToUtf16 s)
/-- a pool by its gaps: so many unusable entries, then the entry; so many at the end -/
def gap : Nat → List CpInfo → List CpInfo
  | 0, r => r
  | n + 1, r => .unusable :: gap n r
def poolList (es : List (Nat × CpInfo)) (last : Nat) : List CpInfo := es.foldr (fun e r => gap e.1 (e.2 :: r)) (gap last [])
def pool (es : List (Nat × CpInfo)) (last : Nat) : Array CpInfo := ⟨poolList es last⟩
def fileOf (pool : Array CpInfo) (this : Nat) (attrs : Array Attribute := #[]) (ms : Array MethodInfo := #[]) (fl : Nat := 33) (sup : Nat := 0) (ifs : Array Nat := #[]) (fds : Array FieldInfo := #[]) : ClassFile where
  minorVersion := 0
  majorVersion := 65
  constantPool := pool
  accessFlags := fl
  thisClass := this
  superClass := sup
  interfaces := ifs
  fields := fds
  methods := ms
  attributes := attrs
def plain (name : String) (sup : Option ClassId) : Class where
  name := name
  kind := .ordinary
  loader := none
  accessFlags := 33
  super := sup
  interfaces := #[]
  cf := none
  fields := #[]
  methods := #[]
  instanceTypes := #[]
  staticTypes := #[]
  resolved := #[]
  callSites := []
  init := .initialized
  statics := none
  mirror := none

def pool0 : Array CpInfo := pool [(5, u "<init>"), (0, u "()V"), (1, .class_ 10), (1, u "java/lang/Object")] 113

def k0m0 : Method := { name := "<init>", desc := "()V", sig := { parameters := [], returnType := none }, accessFlags := 1, code := none }
/-- java/lang/Object -/
def k0 : Class := { plain "java/lang/Object" none with
  accessFlags := 33
  interfaces := #[]
  cf := some (fileOf pool0 8 #[] #[{ accessFlags := 1, nameIndex := 5, descriptorIndex := 6, attributes := #[] }] 33 0 #[] #[])
  fields := #[]
  methods := #[k0m0]
  instanceTypes := #[]
  staticTypes := #[]
  resolved := Array.replicate 124 none
  statics := none }

def pool1 : Array CpInfo := pool [(2, .class_ 4), (1, u "java/lang/Object"), (0, u "<init>"), (0, u "()V"), (0, .class_ 8), (0, u "com/example/onetree/onetree/EdgeWeightFormat"), (0, .fieldref 7 10), (0, .nameAndType 11 12), (0, u "FULL_MATRIX"), (0, u "Lcom/example/onetree/onetree/EdgeWeightFormat;"), (0, .fieldref 7 14), (0, .nameAndType 15 12), (0, u "UPPER_ROW"), (0, .fieldref 7 17), (0, .nameAndType 18 12), (0, u "LOWER_ROW"), (0, .fieldref 7 20), (0, .nameAndType 21 12), (0, u "UPPER_DIAG_ROW"), (0, .fieldref 7 23), (0, .nameAndType 24 12), (0, u "LOWER_DIAG_ROW"), (0, .fieldref 7 26), (0, .nameAndType 27 12), (0, u "UPPER_COL"), (0, .fieldref 7 29), (0, .nameAndType 30 12), (0, u "LOWER_COL"), (0, .fieldref 7 32), (0, .nameAndType 33 12), (0, u "UPPER_DIAG_COL"), (0, .fieldref 7 35), (0, .nameAndType 36 12), (0, u "LOWER_DIAG_COL"), (0, .integer 2147483647), (0, .long 2), (1, .methodref 7 41), (0, .nameAndType 42 43), (0, u "count"), (0, u "(I)J"), (0, .class_ 45), (0, u "com/example/onetree/onetree/EdgeWeightFormatCountPinLaw"), (2, u "law"), (0, u "(II)Z")] 5

def k1m0 : Method := { name := "<init>", desc := "()V", sig := { parameters := [], returnType := none }, accessFlags := 1, code := none }
def k1c1 : Code := { maxStack := 6, maxLocals := 9, code := code, exceptionTable := #[], attributes := #[] }
def k1m1 : Method := { name := "law", desc := "(II)Z", sig := { parameters := [.int, .int], returnType := some .boolean }, accessFlags := 9, code := some k1c1 }
/-- com/example/onetree/onetree/EdgeWeightFormatCountPinLaw -/
def k1 : Class := { plain "com/example/onetree/onetree/EdgeWeightFormatCountPinLaw" (some 0) with
  accessFlags := 49
  interfaces := #[]
  cf := some (fileOf pool1 44 #[] #[{ accessFlags := 1, nameIndex := 5, descriptorIndex := 6, attributes := #[] }, { accessFlags := 9, nameIndex := 48, descriptorIndex := 49, attributes := #[] }] 49 2 #[] #[])
  fields := #[]
  methods := #[k1m0, k1m1]
  instanceTypes := #[]
  staticTypes := #[]
  resolved := Array.replicate 55 none
  statics := none }

def pool2 : Array CpInfo := pool [(1, .class_ 2), (0, u "java/lang/constant/Constable"), (0, .class_ 4), (0, u "java/lang/Object")] 6

/-- java/lang/constant/Constable -/
def k2 : Class := { plain "java/lang/constant/Constable" (some 0) with
  accessFlags := 1537
  interfaces := #[]
  cf := some (fileOf pool2 1 #[] #[] 1537 3 #[] #[])
  fields := #[]
  methods := #[]
  instanceTypes := #[]
  staticTypes := #[]
  resolved := Array.replicate 11 none
  statics := none }

def pool3 : Array CpInfo := pool [(1, .class_ 2), (0, u "java/lang/Comparable"), (0, .class_ 4), (0, u "java/lang/Object")] 7

/-- java/lang/Comparable -/
def k3 : Class := { plain "java/lang/Comparable" (some 0) with
  accessFlags := 1537
  interfaces := #[]
  cf := some (fileOf pool3 1 #[] #[] 1537 3 #[] #[])
  fields := #[]
  methods := #[]
  instanceTypes := #[]
  staticTypes := #[]
  resolved := Array.replicate 12 none
  statics := none }

def pool4 : Array CpInfo := pool [(1, .class_ 2), (0, u "java/io/Serializable"), (0, .class_ 4), (0, u "java/lang/Object")] 2

/-- java/io/Serializable -/
def k4 : Class := { plain "java/io/Serializable" (some 0) with
  accessFlags := 1537
  interfaces := #[]
  cf := some (fileOf pool4 1 #[] #[] 1537 3 #[] #[])
  fields := #[]
  methods := #[]
  instanceTypes := #[]
  staticTypes := #[]
  resolved := Array.replicate 7 none
  statics := none }

def pool5 : Array CpInfo := pool [(2, .class_ 4), (1, u "java/lang/Enum"), (0, u "name"), (0, u "Ljava/lang/String;"), (2, u "ordinal"), (0, u "I"), (1, .class_ 14), (1, u "java/lang/Object"), (4, u "hash"), (86, .class_ 108), (1, u "java/lang/Enum$EnumDesc"), (2, .class_ 112), (0, u "java/lang/constant/Constable"), (0, .class_ 114), (0, u "java/lang/Comparable"), (0, .class_ 116), (0, u "java/io/Serializable")] 87

/-- java/lang/Enum -/
def k5 : Class := { plain "java/lang/Enum" (some 0) with
  accessFlags := 1057
  interfaces := #[2, 3, 4]
  cf := some (fileOf pool5 2 #[.nestMembers #[106]] #[] 1057 12 #[111, 113, 115] #[{ accessFlags := 18, nameIndex := 5, descriptorIndex := 6, attributes := #[] }, { accessFlags := 18, nameIndex := 9, descriptorIndex := 10, attributes := #[] }, { accessFlags := 2, nameIndex := 19, descriptorIndex := 10, attributes := #[] }])
  fields := #[{ name := "name", type := (.object "java/lang/String"), accessFlags := 18, slot := 0, constantValue := 0 }, { name := "ordinal", type := .int, accessFlags := 18, slot := 1, constantValue := 0 }, { name := "hash", type := .int, accessFlags := 2, slot := 2, constantValue := 0 }]
  methods := #[]
  instanceTypes := #[(.object "java/lang/String"), .int, .int]
  staticTypes := #[]
  resolved := Array.replicate 204 none
  statics := none }

def pool6 : Array CpInfo := pool [(1, .class_ 2), (0, u "com/example/onetree/onetree/EdgeWeightFormat"), (2, u "FULL_MATRIX"), (0, u "Lcom/example/onetree/onetree/EdgeWeightFormat;"), (2, u "UPPER_ROW"), (2, u "LOWER_ROW"), (2, u "UPPER_DIAG_ROW"), (2, u "LOWER_DIAG_ROW"), (2, u "UPPER_COL"), (2, u "LOWER_COL"), (2, u "UPPER_DIAG_COL"), (2, u "LOWER_DIAG_COL"), (2, u "$VALUES"), (0, u "[Lcom/example/onetree/onetree/EdgeWeightFormat;"), (6, .class_ 43), (1, u "java/lang/Enum"), (6, .fieldref 1 51), (0, .nameAndType 52 53), (0, u "belowDiagonal"), (0, u "Z"), (0, .fieldref 1 55), (0, .nameAndType 56 53), (0, u "diagonal"), (0, .fieldref 1 58), (0, .nameAndType 59 53), (0, u "aboveDiagonal"), (3, .long 2), (33, u "count"), (0, u "(I)J")] 8

def k6c0 : Code := { maxStack := 4, maxLocals := 4, code := prog_8_method_5_code, exceptionTable := #[], attributes := #[] }
def k6m0 : Method := { name := "count", desc := "(I)J", sig := { parameters := [.int], returnType := some .long }, accessFlags := 0, code := some k6c0 }
/-- com/example/onetree/onetree/EdgeWeightFormat -/
def k6 : Class := { plain "com/example/onetree/onetree/EdgeWeightFormat" (some 5) with
  accessFlags := 16432
  interfaces := #[]
  cf := some (fileOf pool6 1 #[] #[{ accessFlags := 0, nameIndex := 97, descriptorIndex := 98, attributes := #[] }] 16432 41 #[] #[{ accessFlags := 16409, nameIndex := 5, descriptorIndex := 6, attributes := #[] }, { accessFlags := 16409, nameIndex := 9, descriptorIndex := 6, attributes := #[] }, { accessFlags := 16409, nameIndex := 12, descriptorIndex := 6, attributes := #[] }, { accessFlags := 16409, nameIndex := 15, descriptorIndex := 6, attributes := #[] }, { accessFlags := 16409, nameIndex := 18, descriptorIndex := 6, attributes := #[] }, { accessFlags := 16409, nameIndex := 21, descriptorIndex := 6, attributes := #[] }, { accessFlags := 16409, nameIndex := 24, descriptorIndex := 6, attributes := #[] }, { accessFlags := 16409, nameIndex := 27, descriptorIndex := 6, attributes := #[] }, { accessFlags := 16409, nameIndex := 30, descriptorIndex := 6, attributes := #[] }, { accessFlags := 18, nameIndex := 52, descriptorIndex := 53, attributes := #[] }, { accessFlags := 18, nameIndex := 56, descriptorIndex := 53, attributes := #[] }, { accessFlags := 18, nameIndex := 59, descriptorIndex := 53, attributes := #[] }, { accessFlags := 4122, nameIndex := 33, descriptorIndex := 34, attributes := #[] }])
  fields := #[{ name := "FULL_MATRIX", type := (.object "com/example/onetree/onetree/EdgeWeightFormat"), accessFlags := 16409, slot := 0, constantValue := 0 }, { name := "UPPER_ROW", type := (.object "com/example/onetree/onetree/EdgeWeightFormat"), accessFlags := 16409, slot := 1, constantValue := 0 }, { name := "LOWER_ROW", type := (.object "com/example/onetree/onetree/EdgeWeightFormat"), accessFlags := 16409, slot := 2, constantValue := 0 }, { name := "UPPER_DIAG_ROW", type := (.object "com/example/onetree/onetree/EdgeWeightFormat"), accessFlags := 16409, slot := 3, constantValue := 0 }, { name := "LOWER_DIAG_ROW", type := (.object "com/example/onetree/onetree/EdgeWeightFormat"), accessFlags := 16409, slot := 4, constantValue := 0 }, { name := "UPPER_COL", type := (.object "com/example/onetree/onetree/EdgeWeightFormat"), accessFlags := 16409, slot := 5, constantValue := 0 }, { name := "LOWER_COL", type := (.object "com/example/onetree/onetree/EdgeWeightFormat"), accessFlags := 16409, slot := 6, constantValue := 0 }, { name := "UPPER_DIAG_COL", type := (.object "com/example/onetree/onetree/EdgeWeightFormat"), accessFlags := 16409, slot := 7, constantValue := 0 }, { name := "LOWER_DIAG_COL", type := (.object "com/example/onetree/onetree/EdgeWeightFormat"), accessFlags := 16409, slot := 8, constantValue := 0 }, { name := "belowDiagonal", type := .boolean, accessFlags := 18, slot := 3, constantValue := 0 }, { name := "diagonal", type := .boolean, accessFlags := 18, slot := 4, constantValue := 0 }, { name := "aboveDiagonal", type := .boolean, accessFlags := 18, slot := 5, constantValue := 0 }, { name := "$VALUES", type := (.array (.object "com/example/onetree/onetree/EdgeWeightFormat")), accessFlags := 4122, slot := 9, constantValue := 0 }]
  methods := #[k6m0]
  instanceTypes := #[(.object "java/lang/String"), .int, .int, .boolean, .boolean, .boolean]
  staticTypes := #[(.object "com/example/onetree/onetree/EdgeWeightFormat"), (.object "com/example/onetree/onetree/EdgeWeightFormat"), (.object "com/example/onetree/onetree/EdgeWeightFormat"), (.object "com/example/onetree/onetree/EdgeWeightFormat"), (.object "com/example/onetree/onetree/EdgeWeightFormat"), (.object "com/example/onetree/onetree/EdgeWeightFormat"), (.object "com/example/onetree/onetree/EdgeWeightFormat"), (.object "com/example/onetree/onetree/EdgeWeightFormat"), (.object "com/example/onetree/onetree/EdgeWeightFormat"), (.array (.object "com/example/onetree/onetree/EdgeWeightFormat"))]
  resolved := Array.replicate 107 none
  statics := some 0 }

def pool7 : Array CpInfo := pool [(1, u "java/lang/Cloneable"), (0, .class_ 1), (0, u "java/lang/Object"), (0, .class_ 3)] 3

/-- java/lang/Cloneable -/
def k7 : Class := { plain "java/lang/Cloneable" (some 0) with
  accessFlags := 1537
  interfaces := #[]
  cf := some (fileOf pool7 2 #[] #[] 1537 4 #[] #[])
  fields := #[]
  methods := #[]
  instanceTypes := #[]
  staticTypes := #[]
  resolved := Array.replicate 8 none
  statics := none }

/-- the primitive byte -/
def k8 : Class := { plain "byte" none with kind := .primitive 'B', accessFlags := 0x411 }
/-- [B -/
def k9 : Class := { plain "[B" (some 0) with kind := .array 8 .byte, interfaces := #[7, 4], accessFlags := 1041 }

/-- the primitive int -/
def k10 : Class := { plain "int" none with kind := .primitive 'I', accessFlags := 0x411 }
/-- [I -/
def k11 : Class := { plain "[I" (some 0) with kind := .array 10 .int, interfaces := #[7, 4], accessFlags := 1041 }

/-- [Lcom/example/onetree/onetree/EdgeWeightFormat; -/
def k12 : Class := { plain "[Lcom/example/onetree/onetree/EdgeWeightFormat;" (some 0) with kind := .array 6 (.object "com/example/onetree/onetree/EdgeWeightFormat"), interfaces := #[7, 4], accessFlags := 1041 }

def heap : Heap := #[{ cls := 6, slots := #[.ref 1, .ref 2, .ref 3, .ref 4, .ref 5, .ref 6, .ref 7, .ref 8, .ref 9, .null], vm := .statics 6 },
  { cls := 6, slots := #[.null, .int 0, .int 0, .int 1, .int 1, .int 1], vm := .none },
  { cls := 6, slots := #[.null, .int 0, .int 0, .int 0, .int 0, .int 1], vm := .none },
  { cls := 6, slots := #[.null, .int 0, .int 0, .int 1, .int 0, .int 0], vm := .none },
  { cls := 6, slots := #[.null, .int 0, .int 0, .int 0, .int 1, .int 1], vm := .none },
  { cls := 6, slots := #[.null, .int 0, .int 0, .int 1, .int 1, .int 0], vm := .none },
  { cls := 6, slots := #[.null, .int 0, .int 0, .int 1, .int 0, .int 0], vm := .none },
  { cls := 6, slots := #[.null, .int 0, .int 0, .int 0, .int 0, .int 1], vm := .none },
  { cls := 6, slots := #[.null, .int 0, .int 0, .int 1, .int 1, .int 0], vm := .none },
  { cls := 6, slots := #[.null, .int 0, .int 0, .int 0, .int 1, .int 1], vm := .none }]
def classes : Array Class := #[k0, k1, k2, k3, k4, k5, k6, k7, k8, k9, k10, k11, k12]
def interned : List (Array UInt16 × Addr) := []
def slotsUsed : Nat := 64
def theMethod : MethodId := ⟨1, 1⟩
def args0 : Array Value := #[.int 5, .int 7]
def aboutOver (below : List Frame) : State where
  vm := { classes := classes, interned := interned.toArray }
  heap := heap
  slotsUsed := slotsUsed
  threads := #[{ frames := .invoking theMethod args0 :: below }]
def below0 : List Frame := [.native { method := ⟨0, 0⟩, args := #[] }]
def about1 : State := aboutOver below0
def p0 : Program := .bare "" "" ""
def e0 : Env := launch0.env 0 0 0
theorem w_frames : about1.frames = Frame.invoking theMethod args0 :: below0 := rfl
set_option maxRecDepth 65536 in
theorem w_args : argsFit about1.vm theMethod args0 = true := by decide +kernel
set_option maxRecDepth 65536 in
theorem w_heap : heapFits about1 = true := by decide +kernel
set_option maxRecDepth 65536 in
theorem w_runnable : about1.curStatus? = some .runnable := by decide +kernel
set_option maxRecDepth 65536 in
theorem w_alone : about1.alone = true := by decide +kernel
set_option maxRecDepth 65536 in
theorem w_named : about1.methodNamed? x = some theMethod := by decide +kernel
set_option maxRecDepth 65536 in
theorem w_hears : about1.hears theMethod below0 = true := by decide +kernel
set_option maxRecDepth 65536 in
theorem w_ripe : about1.ripe theMethod args0 below0 = true := by decide +kernel
theorem w_running : about1.status = .running := rfl
set_option maxRecDepth 65536 in
theorem w_room : about1.hasRoom e0.platform room_1 = true :=
  launch0.hasRoom_least _ room_1 (by decide +kernel) (by decide +kernel) (by decide +kernel) (by decide +kernel) (by decide +kernel) (by decide +kernel)
theorem allAtoms_all (ts : List Jvm.Cond) (a : Array Jvm.Value) (st : Jvm.State) : (allAtoms ts).before a st = ts.all (fun c => c.before a st) := by
  induction ts with
  | nil => rfl
  | cons c t ih =>
    show (Jvm.Cond.and c (allAtoms t)).before a st = _
    rw [Jvm.Cond.before_and, ih, List.all_cons]
def words1 : List Jvm.Cond := Jvm.Cond.code x code maxLocals ret :: tables_1
/-- a 'code' word, met by the world's own term for the bytes: nothing is compared byte by byte -/
theorem code_word {y : MethodName} {bytes : ByteArray} {mx : Nat} {rt : Option FieldType} {a : Array Value} {s : State} {m : MethodId} {meth : Method} {c : Code} (h1 : s.methodNamed? y = some m) (h2 : s.vm.method? m = some meth) (h3 : meth.code = some c) (h4 : c.code = bytes)
    (h5 : (c.maxLocals == mx && c.exceptionTable.isEmpty && decide (c.maxStack ≤ mostOperands) && decide (meth.sig.returnType = rt) && !meth.locks && decide (parseMethodDescriptor y.desc = some meth.sig)) = true) : (Jvm.Cond.code y bytes mx rt).before a s = true := by
  simp only [Bool.and_eq_true, beq_iff_eq, Bool.not_eq_true', decide_eq_true_eq] at h5
  obtain ⟨⟨⟨⟨⟨g1, g2⟩, g3⟩, g4⟩, g5⟩, g6⟩ := h5
  simp [Cond.before, Cond.holds, Cond.value, h1, h2, h3, h4, g1, g2, g3, g4, g5, g6]
def isCode : Jvm.Cond → Bool
  | .code _ _ _ _ => true
  | _ => false
theorem all_split {L : List Jvm.Cond} {P : Jvm.Cond → Bool} (h1 : L.all (fun c => isCode c || P c) = true) (h2 : ∀ c ∈ L.filter isCode, P c = true) : L.all P = true := by
  refine List.all_eq_true.mpr fun c hc => ?_
  have h := List.all_eq_true.mp h1 c hc
  rcases Bool.eq_false_or_eq_true (isCode c) with hi | hi
  · exact h2 c (List.mem_filter.mpr ⟨hc, hi⟩)
  · simpa [hi] using h
set_option maxRecDepth 65536 in
theorem w_c0 : (Jvm.Cond.code x code maxLocals ret).before args0 about1 = true := code_word (m := ⟨1, 1⟩) (meth := k1m1) (c := k1c1) (by decide +kernel) rfl rfl rfl (by decide +kernel)
set_option maxRecDepth 65536 in
theorem w_c1 : (Jvm.Cond.code ({ cls := "com/example/onetree/onetree/EdgeWeightFormat", name := "count", desc := "(I)J" } : Jvm.MethodName) prog_8_method_5_code (4 : Nat) (Option.some Jvm.ClassFile.FieldType.long)).before args0 about1 = true := code_word (m := ⟨6, 0⟩) (meth := k6m0) (c := k6c0) (by decide +kernel) rfl rfl rfl (by decide +kernel)
def codes1 : List Jvm.Cond := [Jvm.Cond.code x code maxLocals ret, Jvm.Cond.code ({ cls := "com/example/onetree/onetree/EdgeWeightFormat", name := "count", desc := "(I)J" } : Jvm.MethodName) prog_8_method_5_code (4 : Nat) (Option.some Jvm.ClassFile.FieldType.long)]
set_option maxRecDepth 65536 in
theorem codes_eq : words1.filter isCode = codes1 := rfl
theorem w_codes : ∀ c ∈ words1.filter isCode, c.before args0 about1 = true := by
  rw [codes_eq]
  intro c hc
  simp only [codes1, List.mem_cons, List.not_mem_nil, or_false] at hc
  rcases hc with rfl | rfl
  · exact w_c0
  · exact w_c1
set_option maxRecDepth 65536 in
theorem w_t1 : (words1.take 24).all (fun c => isCode c || c.before args0 about1) = true := by decide +kernel
set_option maxRecDepth 65536 in
theorem w_t2 : (words1.drop 24).all (fun c => isCode c || c.before args0 about1) = true := by decide +kernel
theorem w_tables : (allAtoms (Jvm.Cond.code x code maxLocals ret :: tables_1)).before args0 about1 = true := by
  rw [allAtoms_all]
  show words1.all (fun c => c.before args0 about1) = true
  refine all_split ?_ w_codes
  rw [← List.take_append_drop 24 words1, List.all_append, w_t1, w_t2]
  rfl
set_option maxRecDepth 65536 in
theorem w_case : (Jvm.Cond.and given_1 narrow_1).before args0 about1 = true := by decide +kernel
theorem w_applies : (headSpec (Jvm.Cond.code x code maxLocals ret :: tables_1) room_1).applies x e0.platform about1 = true :=
  (Spec.applies_iff w_frames).mpr ⟨w_running, w_runnable, w_alone, w_named, w_hears, w_ripe, w_room, w_tables⟩
theorem atStart : AtStart classFile x code maxLocals ret World_1 tables_1 room_1 Calls_1 rest_1 Pre_1 launch0 p0 e0 about1 theMethod args0 below0 :=
  ⟨lists_1, trivial, launch0.admits_env _ _ _, launch0.least_env, fairChoices_fair.cas, fairChoices_fair.clock, w_frames, w_args, w_heap, w_applies, trivial, trivial, w_case⟩
end start1
theorem witness_1 : WitnessClaimed_1 := ⟨start1.p0, start1.e0, start1.about1, start1.theMethod, start1.args0, start1.below0, start1.atStart⟩
end Jvm.Pilot.@@N@@
