import JvmDerived
import JvmDerived.Pilot.@@N@@Statement
import JvmDerived.Pilot.@@N@@Code
set_option linter.unusedVariables false
set_option linter.unusedSimpArgs false
namespace Jvm.RoadKit
open Sem ClassFile Op Lib Jvm.Stand Jvm.Free Jvm.LawKit
section New
variable {p : Program} {l : Launch} {e : Env} {R : Room} {s : State} {m : MethodId} {args : Array Value} {below : List Frame} {meth : Method} {c : Code} {T : State} {locs : List Loc} {cells slots : Nat}
theorem retI (X : Stand p l e R s m args below meth c T locs cells slots) (hx : p.tables.exec = Jvm.exec) {pc : Nat} {Ls : Array Slot} {z : Int32} {rest : List Value} (hret : meth.sig.returnType = some .int) (hd : decode c.code pc = .ok (.ireturn, 1)) {fs : List Frame}
    (hl : ∀ (f : JFrame) (acts : List Action), f.method = m → f.locked = none → f.entered = [] → (doReturn e (T.setTop f) acts (some (.int z))).1 = T.setFrames fs) : Steps p.tables e below (T.setTop (mkF m pc Ls (.int z :: rest))) (T.setFrames fs) := by
  have hm' : T.vm.method? m = some meth := X.method'
  have hn : narrow .int (.int z) = .int z := rfl
  show Steps p.tables e below (T.setTop { method := m, pc := pc, locals := Ls, stack := _ :: rest, locked := none }) _
  jvm_step X.here [X.here.top, hx, hd, hm', hret, hn]
  first | (intro acts; rw [hl _ acts rfl rfl rfl]) | rw [hl _ _ rfl rfl rfl]
  exact Steps.refl _
end New
end Jvm.RoadKit
namespace Jvm.Pilot.@@N@@
open Jvm Jvm.ClassFile Sem Op Lib Jvm.Free Jvm.Stand Jvm.LawKit Jvm.RoadKit Bundle Jvm.Pilot.@@N@@.Jvm.D
theorem tk {L : List Jvm.Cond} {d : Jvm.Cond} (i : Nat) (h : L[i]? = some d) : d ∈ L := List.mem_of_getElem? h
/-! own small facts: what the case says of a pinned static's field -/
theorem own_fld {args : Array Value} {s : State} {t : Term} {C n d : String} {w : Addr} {k : Int32} (ht : t.eval args s none [] s = some (.ref w)) (h : (Cond.eq (.field t C n d) (.int k)).value args s none s [] = some true) : Fld s s.heap w C n d (.int k) := by
  obtain ⟨x, y, hx, hy, -, kin⟩ := cmp_v (Or.inl h)
  obtain rfl : Value.int k = y := Option.some.inj hy
  obtain ⟨z, rfl⟩ := kin
  have e : z = k := by simpa [Cond.value, hx, hy] using h
  subst e
  exact Fld.start ((fld_at ht).symm.trans hx)
theorem own_fldN {args : Array Value} {s : State} {t : Term} {C n d : String} {w : Addr} (ht : t.eval args s none [] s = some (.ref w)) (h : (Cond.eq (.field t C n d) .null).value args s none s [] = some true) : Fld s s.heap w C n d .null :=
  Fld.start ((fld_at ht).symm.trans (null_v h))
theorem own_nsroot {Z : State} {a0 : Array Value} {O K : String} {n : Nat} (w : (Cond.noSuperclass O).before a0 Z = true) (wk : (Cond.instantiable K n).before a0 Z = true) (hn : O ≠ K) : NS Z O K := by
  obtain ⟨c, k, h1, h2, h3, -, -⟩ := Cond.noSuperclass_spec w
  obtain ⟨t, -, g1, -⟩ := Cond.instantiable_spec wk
  have ne := ids_ne h1 g1 hn
  refine ⟨c, t, h1, g1, fun fuel => ?_⟩
  cases fuel with
  | zero => rfl
  | succ f => simp [Vm.isSubclassAux, ne, h2, h3]
theorem own_nsno {Z : State} {a0 : Array Value} {C S K : String} {n : Nat} (w : (Cond.superclass C S).before a0 Z = true) (wk : (Cond.instantiable K n).before a0 Z = true) (ns : NS Z C K) (hn : C ≠ K) : ∃ c t, Z.vm.findClass C = some c ∧ Z.vm.findClass K = some t ∧ Z.vm.assignable c t = false := by
  obtain ⟨c, t, h0, g0, n3⟩ := ns
  obtain ⟨p, k, kp, h1, h2, h3, h4, h5, -, h7⟩ := Cond.superclass_spec h0 w
  obtain ⟨t', k', g1, g2, g3, g4, -⟩ := Cond.instantiable_spec wk
  cases g0.symm.trans g1
  have ne := ids_ne h0 g0 hn
  have g5 : k'.isInterface = false := (Bool.or_eq_false_iff.mp g4).1
  refine ⟨c, t, h0, g0, ?_⟩
  show Z.vm.assignableAux (255 + 1) c t = false
  simp [Vm.assignableAux, ne, h2, g2, h5, g3, g5, Vm.isSubclass, n3]
theorem own_nar {v : Value} {C : String} (h : v.isRef = true) : narrow (.object C) v = v := by rcases ref_cases h with rfl | ⟨a, rfl⟩ <;> rfl
theorem own_fit {v : Value} {C : String} (h : v.isRef = true) : fits (.object C) v = true := by rcases ref_cases h with rfl | ⟨a, rfl⟩ <;> rfl
theorem own_refof {v : Value} (h : v.isRef = true) (n : ¬ v = .null) : ∃ a, v = .ref a := (ref_cases h).elim (fun q => absurd q n) id
theorem own_sint {args : Array Value} {s : State} {t : Term} {k : Int32} (h : (Cond.eq t (.int k)).value args s none s [] = some true) : t.eval args s none [] s = some (.int k) := by
  obtain ⟨x, y, hx, hy, -, kin⟩ := cmp_v (Or.inl h)
  obtain rfl : Value.int k = y := Option.some.inj hy
  obtain ⟨z, rfl⟩ := kin
  have e : z = k := by simpa [Cond.value, hx, hy] using h
  subst e; exact hx
theorem own_snot {args : Array Value} {s : State} {t : Term} {k z : Int32} (ht : t.eval args s none [] s = some (.int z)) (h : (Cond.not (Cond.eq t (.int k))).value args s none s [] = some true) : ¬ z = k := by
  have := not_v h
  intro e
  subst e
  simp [Cond.value, ht, Term.eval] at this
theorem own_seq {args : Array Value} {s : State} {t u : Term} {a b : Addr} (ht : t.eval args s none [] s = some (.ref a)) (hu : u.eval args s none [] s = some (.ref b)) (h : (Cond.eq t u).value args s none s [] = some true) : b = a := by
  have e : a = b := by simpa [Cond.value, ht, hu] using h
  exact e.symm
theorem own_len {args : Array Value} {s : State} {t : Term} {a : Addr} {c : Cell} {ty : FieldType} {n : Int32} (ht : t.eval args s none [] s = some (.ref a)) (A : Arr s s.heap a c ty) (h : (Cond.eq (.length t) (.int n)).value args s none s [] = some true) : c.slots.size < 2 ^ 31 ∧ c.slots.size.toInt32 = n := by
  have e0 := own_sint h
  have hfin := A.fin (Vm.Alike.refl _)
  by_cases hl : c.slots.size < 2 ^ 31
  · rw [len_f ht hfin hl] at e0
    exact ⟨hl, Value.int.inj (Option.some.inj e0)⟩
  · exfalso
    simp [Term.eval, ht, hfin, hl] at e0
theorem own_elem {args : Array Value} {s : State} {t u : Term} {a w : Addr} {c : Cell} {i : Int32} (ht : t.eval args s none [] s = some (.ref a)) (hc : s.heap[a]? = some c) (hu : u.eval args s none [] s = some (.ref w)) (h : (Cond.eq (.elem t (.int i)) u).value args s none s [] = some true) : c.slots[i.toNatClampNeg]? = some (.ref w) := by
  obtain ⟨x, y, hx, hy, k1, k2⟩ := cmp_v (Or.inl h)
  obtain rfl : Value.ref w = y := Option.some.inj (hu.symm.trans hy)
  have e := gotT (eq_R hx hu k2.2 rfl) h
  rw [e] at hx
  exact (elem_in hx ht (Term.int_eval i) hc).2
theorem own_ldcF {p : Program} {l : Launch} {e : Env} {R : Room} {s : State} {m : MethodId} {args : Array Value} {below : List Frame} {meth : Method} {c : Code} {T : State} {locs : List Loc} {cells slots : Nat}
    (X : Stand p l e R s m args below meth c T locs cells slots) (hx : p.tables.exec = Jvm.exec) {own : String} {index : Nat} {b : UInt32} (hown : s.vm.findClass own = some m.cls) (w : (Cond.constantFloat own index b).before args s = true) {g : JFrame} (hg : g.method = m) (hd : decode c.code g.pc = .ok (.ldc index, 2)) :
    ∀ target, Steps p.tables e below (T.setTop { g with pc := g.pc + 2, stack := .float b :: g.stack }) target → Steps p.tables e below (T.setTop g) target := by
  obtain ⟨k, cf, h1, h2, h3⟩ := Cond.constantFloat_spec hown w
  exact X.ldcFloat hx h1 h2 h3 hg hd
theorem own_old {Z : State} {n0 : Nat} {h : Heap} (O : Old Z n0 h) : n0 ≤ h.size := O.1 ▸ O.2.1
theorem own_rand (x m : Int32) (n : Int) (h0 : 0 ≤ m.toInt) (h1 : m.toInt < n) : 0 ≤ (x &&& m).toInt ∧ (x &&& m).toInt < n := by
  have := c_and x m h0; omega
theorem own_rrem (x y : Int32) (n : Int) (h0 : 0 ≤ x.toInt) (hy : y.toInt = n) (hn : 0 < n) : 0 ≤ (x % y).toInt ∧ (x % y).toInt < n := by
  rw [(c_irem x y n hy).1 h0]; exact ⟨Int.emod_nonneg _ (by omega), Int.emod_lt_of_pos _ hn⟩
theorem own_rshr (x q : Int32) (k : Nat) (m : Int) {n : Int} (r : 0 ≤ x.toInt ∧ x.toInt < n) (hk : q.toBitVec.toNat % 32 = k) (hm : (n - 1) / ((2 ^ k : Nat) : Int) < m) : 0 ≤ (x >>> (q &&& 31)).toInt ∧ (x >>> (q &&& 31)).toInt < m := by
  rw [c_ishr x q k hk]
  have hp : (0 : Int) < ((2 ^ k : Nat) : Int) := by exact_mod_cast Nat.two_pow_pos k
  exact ⟨Int.ediv_nonneg r.1 (Int.le_of_lt hp), Int.lt_of_le_of_lt (Int.ediv_le_ediv hp (by omega)) hm⟩
theorem own_off {e c : Int32} {n : Int} (r : 0 ≤ e.toInt ∧ e.toInt < n) (h : decide (n ≤ c.toInt ∨ c.toInt < 0) = true) : ¬ e = c := fun z => by
  subst z
  have := of_decide_eq_true h
  omega
theorem own_below {e c : Int32} {n : Int} (r : 0 ≤ e.toInt ∧ e.toInt < n) (h : n ≤ c.toInt) : e < c := by rw [Int32.lt_iff_toInt_lt]; omega
theorem own_notbelow {e c : Int32} {n : Int} (r : 0 ≤ e.toInt ∧ e.toInt < n) (h : c.toInt ≤ 0) : ¬ e < c := by rw [Int32.lt_iff_toInt_lt]; omega
theorem own_notabove {e c : Int32} {n : Int} (r : 0 ≤ e.toInt ∧ e.toInt < n) (h : n - 1 ≤ c.toInt) : ¬ c < e := by rw [Int32.lt_iff_toInt_lt]; omega
theorem own_above {e c : Int32} {n : Int} (r : 0 ≤ e.toInt ∧ e.toInt < n) (h : c.toInt < 0) : c < e := by rw [Int32.lt_iff_toInt_lt]; omega
theorem own_lt {a b : Int32} {n : Int} (h : a < b) (e : b.toInt = n) : a.toInt < n := by rw [← e]; exact Int32.lt_iff_toInt_lt.mp h
theorem own_ne {a b : Int32} {n : Int} (h : ¬ a = b) (e : b.toInt = n) : a.toInt ≠ n := fun z => h (Int32.toInt_inj.mp (z.trans e.symm))
theorem own_eq {a b : Int32} {n : Int} (e : b.toInt = n) (h : a.toInt = n) : a = b := Int32.toInt_inj.mp (h.trans e.symm)
theorem d1_0 : decode prog_19_method_1_code 0 = .ok (.aload_n 0, 1) := by decide +kernel
theorem d1_1 : decode prog_19_method_1_code 1 = .ok (.invokespecial 1, 3) := by decide +kernel
theorem d1_4 : decode prog_19_method_1_code 4 = .ok (.aload_n 0, 1) := by decide +kernel
theorem d1_5 : decode prog_19_method_1_code 5 = .ok (.new 7, 3) := by decide +kernel
theorem d1_8 : decode prog_19_method_1_code 8 = .ok (.dup, 1) := by decide +kernel
theorem d1_9 : decode prog_19_method_1_code 9 = .ok (.invokespecial 9, 3) := by decide +kernel
theorem d3_0 : decode jdk_69_method_7_code 0 = .ok (.aload_n 0, 1) := by decide +kernel
theorem d3_1 : decode jdk_69_method_7_code 1 = .ok (.invokespecial 43, 3) := by decide +kernel
theorem d4_0 : decode jdk_71_method_1_code 0 = .ok (.aload_n 0, 1) := by decide +kernel
theorem d4_1 : decode jdk_71_method_1_code 1 = .ok (.invokespecial 1, 3) := by decide +kernel
theorem d4_4 : decode jdk_71_method_1_code 4 = .ok (.return_, 1) := by decide +kernel
abbrev Y0 : MethodName := (⟨"java/util/AbstractMap", "<init>", "()V"⟩ : MethodName)
theorem pd_0 : parseMethodDescriptor "()V" = some ⟨[], none⟩ := by decide +kernel
theorem d3_4 : decode jdk_69_method_7_code 4 = .ok (.aload_n 0, 1) := by decide +kernel
theorem d3_5 : decode jdk_69_method_7_code 5 = .ok (.ldc 92, 2) := by decide +kernel
theorem d3_7 : decode jdk_69_method_7_code 7 = .ok (.putfield 81, 3) := by decide +kernel
theorem d3_10 : decode jdk_69_method_7_code 10 = .ok (.return_, 1) := by decide +kernel
abbrev Y1 : MethodName := (⟨"java/util/HashMap", "<init>", "()V"⟩ : MethodName)
theorem d1_12 : decode prog_19_method_1_code 12 = .ok (.putfield 10, 3) := by decide +kernel
theorem d1_15 : decode prog_19_method_1_code 15 = .ok (.aload_n 0, 1) := by decide +kernel
theorem d1_16 : decode prog_19_method_1_code 16 = .ok (.new 16, 3) := by decide +kernel
theorem d1_19 : decode prog_19_method_1_code 19 = .ok (.dup, 1) := by decide +kernel
theorem d1_20 : decode prog_19_method_1_code 20 = .ok (.invokespecial 18, 3) := by decide +kernel
theorem d5_0 : decode prog_14_method_1_code 0 = .ok (.aload_n 0, 1) := by decide +kernel
theorem d5_1 : decode prog_14_method_1_code 1 = .ok (.invokespecial 1, 3) := by decide +kernel
theorem d5_4 : decode prog_14_method_1_code 4 = .ok (.aload_n 0, 1) := by decide +kernel
theorem d5_5 : decode prog_14_method_1_code 5 = .ok (.new 7, 3) := by decide +kernel
theorem d5_8 : decode prog_14_method_1_code 8 = .ok (.dup, 1) := by decide +kernel
theorem d5_9 : decode prog_14_method_1_code 9 = .ok (.invokespecial 9, 3) := by decide +kernel
theorem d5_12 : decode prog_14_method_1_code 12 = .ok (.putfield 10, 3) := by decide +kernel
theorem d5_15 : decode prog_14_method_1_code 15 = .ok (.return_, 1) := by decide +kernel
abbrev Y2 : MethodName := (⟨"com/example/vetd/vetd/JointLines", "<init>", "()V"⟩ : MethodName)
theorem d1_23 : decode prog_19_method_1_code 23 = .ok (.putfield 19, 3) := by decide +kernel
theorem d1_26 : decode prog_19_method_1_code 26 = .ok (.aload_n 0, 1) := by decide +kernel
theorem d1_27 : decode prog_19_method_1_code 27 = .ok (.new 7, 3) := by decide +kernel
theorem d1_30 : decode prog_19_method_1_code 30 = .ok (.dup, 1) := by decide +kernel
theorem d1_31 : decode prog_19_method_1_code 31 = .ok (.invokespecial 9, 3) := by decide +kernel
theorem d1_34 : decode prog_19_method_1_code 34 = .ok (.putfield 23, 3) := by decide +kernel
theorem d1_37 : decode prog_19_method_1_code 37 = .ok (.aload_n 0, 1) := by decide +kernel
theorem d1_38 : decode prog_19_method_1_code 38 = .ok (.iload_n 1, 1) := by decide +kernel
theorem d1_39 : decode prog_19_method_1_code 39 = .ok (.anewarray 26, 3) := by decide +kernel
theorem d1_42 : decode prog_19_method_1_code 42 = .ok (.putfield 28, 3) := by decide +kernel
theorem d1_45 : decode prog_19_method_1_code 45 = .ok (.return_, 1) := by decide +kernel
abbrev Y3 : MethodName := (⟨"com/example/vetd/vetd/Policy$ActionRules", "<init>", "(I)V"⟩ : MethodName)
theorem pd_1 : parseMethodDescriptor "(I)V" = some ⟨[.int], none⟩ := by decide +kernel
theorem d10_0 : decode prog_19_method_2_code 0 = .ok (.aload_n 0, 1) := by decide +kernel
theorem d10_1 : decode prog_19_method_2_code 1 = .ok (.getfield 28, 3) := by decide +kernel
theorem d10_4 : decode prog_19_method_2_code 4 = .ok (.iload_n 1, 1) := by decide +kernel
theorem d10_5 : decode prog_19_method_2_code 5 = .ok (.aaload, 1) := by decide +kernel
theorem d10_6 : decode prog_19_method_2_code 6 = .ok (.ifnonnull 16, 3) := by decide +kernel
theorem d10_9 : decode prog_19_method_2_code 9 = .ok (.aload_n 0, 1) := by decide +kernel
theorem d10_10 : decode prog_19_method_2_code 10 = .ok (.getfield 28, 3) := by decide +kernel
theorem d10_13 : decode prog_19_method_2_code 13 = .ok (.iload_n 1, 1) := by decide +kernel
theorem d10_14 : decode prog_19_method_2_code 14 = .ok (.new 26, 3) := by decide +kernel
theorem d10_17 : decode prog_19_method_2_code 17 = .ok (.dup, 1) := by decide +kernel
theorem d10_18 : decode prog_19_method_2_code 18 = .ok (.invokespecial 32, 3) := by decide +kernel
theorem d6_0 : decode prog_20_method_1_code 0 = .ok (.aload_n 0, 1) := by decide +kernel
theorem d6_1 : decode prog_20_method_1_code 1 = .ok (.invokespecial 1, 3) := by decide +kernel
theorem d6_4 : decode prog_20_method_1_code 4 = .ok (.aload_n 0, 1) := by decide +kernel
theorem d6_5 : decode prog_20_method_1_code 5 = .ok (.new 7, 3) := by decide +kernel
theorem d6_8 : decode prog_20_method_1_code 8 = .ok (.dup, 1) := by decide +kernel
theorem d6_9 : decode prog_20_method_1_code 9 = .ok (.invokespecial 9, 3) := by decide +kernel
theorem d7_0 : decode jdk_92_method_4_code 0 = .ok (.aload_n 0, 1) := by decide +kernel
theorem d7_1 : decode jdk_92_method_4_code 1 = .ok (.invokespecial 21, 3) := by decide +kernel
theorem d7_4 : decode jdk_92_method_4_code 4 = .ok (.aload_n 0, 1) := by decide +kernel
theorem d7_5 : decode jdk_92_method_4_code 5 = .ok (.iconst 0, 1) := by decide +kernel
theorem d7_6 : decode jdk_92_method_4_code 6 = .ok (.putfield 7, 3) := by decide +kernel
theorem d7_9 : decode jdk_92_method_4_code 9 = .ok (.aload_n 0, 1) := by decide +kernel
theorem d7_10 : decode jdk_92_method_4_code 10 = .ok (.iconst 0, 1) := by decide +kernel
theorem d7_11 : decode jdk_92_method_4_code 11 = .ok (.putfield 24, 3) := by decide +kernel
theorem d7_14 : decode jdk_92_method_4_code 14 = .ok (.aload_n 0, 1) := by decide +kernel
theorem d7_15 : decode jdk_92_method_4_code 15 = .ok (.bipush 64, 2) := by decide +kernel
theorem d7_17 : decode jdk_92_method_4_code 17 = .ok (.invokevirtual 27, 3) := by decide +kernel
theorem d8_0 : decode jdk_92_method_6_code 0 = .ok (.aload_n 0, 1) := by decide +kernel
theorem d8_1 : decode jdk_92_method_6_code 1 = .ok (.iload_n 1, 1) := by decide +kernel
theorem d8_2 : decode jdk_92_method_6_code 2 = .ok (.iconst 1, 1) := by decide +kernel
theorem d8_3 : decode jdk_92_method_6_code 3 = .ok (.isub, 1) := by decide +kernel
theorem d8_4 : decode jdk_92_method_6_code 4 = .ok (.invokestatic 52, 3) := by decide +kernel
theorem d9_0 : decode jdk_92_method_1_code 0 = .ok (.iload_n 0, 1) := by decide +kernel
theorem d9_1 : decode jdk_92_method_1_code 1 = .ok (.bipush 6, 2) := by decide +kernel
theorem d9_3 : decode jdk_92_method_1_code 3 = .ok (.ishr, 1) := by decide +kernel
theorem d9_4 : decode jdk_92_method_1_code 4 = .ok (.ireturn, 1) := by decide +kernel
abbrev Y4 : MethodName := (⟨"java/util/BitSet", "wordIndex", "(I)I"⟩ : MethodName)
theorem pd_2 : parseMethodDescriptor "(I)I" = some ⟨[.int], some .int⟩ := by decide +kernel
theorem d8_7 : decode jdk_92_method_6_code 7 = .ok (.iconst 1, 1) := by decide +kernel
theorem d8_8 : decode jdk_92_method_6_code 8 = .ok (.iadd, 1) := by decide +kernel
theorem d8_9 : decode jdk_92_method_6_code 9 = .ok (.newarray .long, 2) := by decide +kernel
theorem d8_11 : decode jdk_92_method_6_code 11 = .ok (.putfield 11, 3) := by decide +kernel
theorem d8_14 : decode jdk_92_method_6_code 14 = .ok (.return_, 1) := by decide +kernel
abbrev Y5 : MethodName := (⟨"java/util/BitSet", "initWords", "(I)V"⟩ : MethodName)
theorem d7_20 : decode jdk_92_method_4_code 20 = .ok (.aload_n 0, 1) := by decide +kernel
theorem d7_21 : decode jdk_92_method_4_code 21 = .ok (.iconst 0, 1) := by decide +kernel
theorem d7_22 : decode jdk_92_method_4_code 22 = .ok (.putfield 24, 3) := by decide +kernel
theorem d7_25 : decode jdk_92_method_4_code 25 = .ok (.return_, 1) := by decide +kernel
abbrev Y6 : MethodName := (⟨"java/util/BitSet", "<init>", "()V"⟩ : MethodName)
theorem d6_12 : decode prog_20_method_1_code 12 = .ok (.putfield 10, 3) := by decide +kernel
theorem d6_15 : decode prog_20_method_1_code 15 = .ok (.aload_n 0, 1) := by decide +kernel
theorem d6_16 : decode prog_20_method_1_code 16 = .ok (.new 7, 3) := by decide +kernel
theorem d6_19 : decode prog_20_method_1_code 19 = .ok (.dup, 1) := by decide +kernel
theorem d6_20 : decode prog_20_method_1_code 20 = .ok (.invokespecial 9, 3) := by decide +kernel
theorem d6_23 : decode prog_20_method_1_code 23 = .ok (.putfield 16, 3) := by decide +kernel
theorem d6_26 : decode prog_20_method_1_code 26 = .ok (.return_, 1) := by decide +kernel
abbrev Y7 : MethodName := (⟨"com/example/vetd/vetd/Policy$Lines", "<init>", "()V"⟩ : MethodName)
theorem d10_21 : decode prog_19_method_2_code 21 = .ok (.aastore, 1) := by decide +kernel
theorem d10_22 : decode prog_19_method_2_code 22 = .ok (.aload_n 0, 1) := by decide +kernel
theorem d10_23 : decode prog_19_method_2_code 23 = .ok (.getfield 28, 3) := by decide +kernel
theorem d10_26 : decode prog_19_method_2_code 26 = .ok (.iload_n 1, 1) := by decide +kernel
theorem d10_27 : decode prog_19_method_2_code 27 = .ok (.aaload, 1) := by decide +kernel
theorem d10_28 : decode prog_19_method_2_code 28 = .ok (.areturn, 1) := by decide +kernel
abbrev Y8 : MethodName := (⟨"com/example/vetd/vetd/Policy$ActionRules", "linesOf", "(I)Lcom/example/vetd/vetd/Policy$Lines;"⟩ : MethodName)
theorem pd_3 : parseMethodDescriptor "(I)Lcom/example/vetd/vetd/Policy$Lines;" = some ⟨[.int], some (.object "com/example/vetd/vetd/Policy$Lines")⟩ := by decide +kernel
theorem d11_0 : decode prog_20_method_2_code 0 = .ok (.aconst_null, 1) := by decide +kernel
theorem d11_1 : decode prog_20_method_2_code 1 = .ok (.astore_n 2, 1) := by decide +kernel
theorem d11_2 : decode prog_20_method_2_code 2 = .ok (.aload_n 1, 1) := by decide +kernel
theorem d11_3 : decode prog_20_method_2_code 3 = .ok (.astore_n 3, 1) := by decide +kernel
theorem d11_4 : decode prog_20_method_2_code 4 = .ok (.aload_n 3, 1) := by decide +kernel
theorem d11_5 : decode prog_20_method_2_code 5 = .ok (.arraylength, 1) := by decide +kernel
theorem d11_6 : decode prog_20_method_2_code 6 = .ok (.istore 4, 2) := by decide +kernel
theorem d11_8 : decode prog_20_method_2_code 8 = .ok (.iconst 0, 1) := by decide +kernel
theorem d11_9 : decode prog_20_method_2_code 9 = .ok (.istore 5, 2) := by decide +kernel
theorem d11_11 : decode prog_20_method_2_code 11 = .ok (.iload 5, 2) := by decide +kernel
theorem d11_13 : decode prog_20_method_2_code 13 = .ok (.iload 4, 2) := by decide +kernel
theorem d11_15 : decode prog_20_method_2_code 15 = .ok (.if_icmp .ge 47, 3) := by decide +kernel
theorem d11_18 : decode prog_20_method_2_code 18 = .ok (.aload_n 3, 1) := by decide +kernel
theorem d11_19 : decode prog_20_method_2_code 19 = .ok (.iload 5, 2) := by decide +kernel
theorem d11_21 : decode prog_20_method_2_code 21 = .ok (.iaload, 1) := by decide +kernel
theorem d11_22 : decode prog_20_method_2_code 22 = .ok (.istore 6, 2) := by decide +kernel
theorem d11_24 : decode prog_20_method_2_code 24 = .ok (.aload_n 0, 1) := by decide +kernel
theorem d11_25 : decode prog_20_method_2_code 25 = .ok (.getfield 16, 3) := by decide +kernel
theorem d11_28 : decode prog_20_method_2_code 28 = .ok (.iload 6, 2) := by decide +kernel
theorem d11_30 : decode prog_20_method_2_code 30 = .ok (.invokevirtual 19, 3) := by decide +kernel
theorem d12_0 : decode jdk_92_method_26_code 0 = .ok (.iload_n 1, 1) := by decide +kernel
theorem d12_1 : decode jdk_92_method_26_code 1 = .ok (.ifCond .ge 30, 3) := by decide +kernel
theorem d12_31 : decode jdk_92_method_26_code 31 = .ok (.aload_n 0, 1) := by decide +kernel
theorem d12_32 : decode jdk_92_method_26_code 32 = .ok (.invokevirtual 56, 3) := by decide +kernel
theorem d13_0 : decode jdk_92_method_2_code 0 = .ok (.getstatic 3, 3) := by decide +kernel
theorem d13_3 : decode jdk_92_method_2_code 3 = .ok (.ifCond .ne 34, 3) := by decide +kernel
theorem d13_37 : decode jdk_92_method_2_code 37 = .ok (.getstatic 3, 3) := by decide +kernel
theorem d13_40 : decode jdk_92_method_2_code 40 = .ok (.ifCond .ne 30, 3) := by decide +kernel
theorem d13_70 : decode jdk_92_method_2_code 70 = .ok (.getstatic 3, 3) := by decide +kernel
theorem d13_73 : decode jdk_92_method_2_code 73 = .ok (.ifCond .ne 37, 3) := by decide +kernel
theorem d13_110 : decode jdk_92_method_2_code 110 = .ok (.return_, 1) := by decide +kernel
abbrev Y9 : MethodName := (⟨"java/util/BitSet", "checkInvariants", "()V"⟩ : MethodName)
theorem d12_35 : decode jdk_92_method_26_code 35 = .ok (.iload_n 1, 1) := by decide +kernel
theorem d12_36 : decode jdk_92_method_26_code 36 = .ok (.invokestatic 52, 3) := by decide +kernel
theorem d12_39 : decode jdk_92_method_26_code 39 = .ok (.istore_n 2, 1) := by decide +kernel
theorem d12_40 : decode jdk_92_method_26_code 40 = .ok (.iload_n 2, 1) := by decide +kernel
theorem d12_41 : decode jdk_92_method_26_code 41 = .ok (.aload_n 0, 1) := by decide +kernel
theorem d12_42 : decode jdk_92_method_26_code 42 = .ok (.getfield 7, 3) := by decide +kernel
theorem d12_45 : decode jdk_92_method_26_code 45 = .ok (.if_icmp .ge 22, 3) := by decide +kernel
theorem d12_67 : decode jdk_92_method_26_code 67 = .ok (.iconst 0, 1) := by decide +kernel
theorem d12_68 : decode jdk_92_method_26_code 68 = .ok (.ireturn, 1) := by decide +kernel
abbrev Y10 : MethodName := (⟨"java/util/BitSet", "get", "(I)Z"⟩ : MethodName)
theorem pd_4 : parseMethodDescriptor "(I)Z" = some ⟨[.int], some .boolean⟩ := by decide +kernel
theorem d11_33 : decode prog_20_method_2_code 33 = .ok (.ifCond .eq 7, 3) := by decide +kernel
theorem d11_40 : decode prog_20_method_2_code 40 = .ok (.aload_n 0, 1) := by decide +kernel
theorem d11_41 : decode prog_20_method_2_code 41 = .ok (.getfield 10, 3) := by decide +kernel
theorem d11_44 : decode prog_20_method_2_code 44 = .ok (.iload 6, 2) := by decide +kernel
theorem d11_46 : decode prog_20_method_2_code 46 = .ok (.invokevirtual 19, 3) := by decide +kernel
theorem d11_49 : decode prog_20_method_2_code 49 = .ok (.ifCond .eq 7, 3) := by decide +kernel
theorem d11_56 : decode prog_20_method_2_code 56 = .ok (.iinc 5 1, 3) := by decide +kernel
theorem d11_59 : decode prog_20_method_2_code 59 = .ok (.goto (-48), 3) := by decide +kernel
theorem d11_62 : decode prog_20_method_2_code 62 = .ok (.aload_n 2, 1) := by decide +kernel
theorem d11_63 : decode prog_20_method_2_code 63 = .ok (.areturn, 1) := by decide +kernel
abbrev Y11 : MethodName := (⟨"com/example/vetd/vetd/Policy$Lines", "answer", "([I)Lcom/example/vetd/vetd/Decision;"⟩ : MethodName)
theorem pd_5 : parseMethodDescriptor "([I)Lcom/example/vetd/vetd/Decision;" = some ⟨[(.array .int)], some (.object "com/example/vetd/vetd/Decision")⟩ := by decide +kernel
theorem own_n8 (p : Int32) : 1 ≤ ((p &&& (7 : Int32)) + (1 : Int32)).toInt ∧ ((p &&& (7 : Int32)) + (1 : Int32)).toInt ≤ 8 := by
  have a := own_rand p (7 : Int32) 8 (by decide) (by decide)
  have b := c_iadd (p &&& (7 : Int32)) 1
  have c := rng32 ((p &&& (7 : Int32)) + (1 : Int32))
  have e1 : (1 : Int32).toInt = 1 := by decide
  omega
theorem own_n0 (p : Int32) : ¬ ((p &&& (7 : Int32)) + (1 : Int32)) = (0 : Int32) := fun h => by
  have a := own_n8 p
  rw [h] at a
  exact absurd a.1 (by decide)
theorem own_nn (p : Int32) : ¬ ((p &&& (7 : Int32)) + (1 : Int32)) < (0 : Int32) := fun h => by
  have a := own_n8 p
  rw [Int32.lt_iff_toInt_lt] at h
  have e0 : (0 : Int32).toInt = 0 := by decide
  omega
theorem own_ncap (p : Int32) : ((p &&& (7 : Int32)) + (1 : Int32)).toNatClampNeg ≤ 8 := by
  have a := own_n8 p
  simp only [Int32.toNatClampNeg]; omega
theorem own_rn (q p : Int32) : 0 ≤ ((q &&& (2147483647 : Int32)) % ((p &&& (7 : Int32)) + (1 : Int32))).toInt ∧ ((q &&& (2147483647 : Int32)) % ((p &&& (7 : Int32)) + (1 : Int32))).toInt < ((p &&& (7 : Int32)) + (1 : Int32)).toInt := by
  have a := own_n8 p
  have b := own_rand q (2147483647 : Int32) 2147483648 (by decide) (by decide)
  have c := (c_iremV (q &&& (2147483647 : Int32)) ((p &&& (7 : Int32)) + (1 : Int32))).1 b.1 (by omega)
  exact ⟨c.1, c.2.1⟩
theorem own_r0 (q p : Int32) : ¬ ((q &&& (2147483647 : Int32)) % ((p &&& (7 : Int32)) + (1 : Int32))) < (0 : Int32) := fun h => by
  have a := own_rn q p
  rw [Int32.lt_iff_toInt_lt] at h
  have e0 : (0 : Int32).toInt = 0 := by decide
  omega
theorem own_rl (q p : Int32) : ((q &&& (2147483647 : Int32)) % ((p &&& (7 : Int32)) + (1 : Int32))) < ((p &&& (7 : Int32)) + (1 : Int32)) := Int32.lt_iff_toInt_lt.mpr (own_rn q p).2
def StF (Z : State) : Prop :=
  Sta Z Z.heap "java/util/BitSet" "$assertionsDisabled" "Z" (.int (1 : Int32))
theorem pn_4c1 : plainName "java/util/AbstractMap" = true := by first | (simp [plainName, overriddenIn]; done) | decide +kernel
theorem ef_4c1 (m : MethodId) (r0 : Addr) : entryFrame m #[(.ref r0)] 1 = mkF m 0 #[.val (.ref r0)] [] := by first | (simp [entryFrame, mkF, argsToLocals, Value.category]; done) | rfl
def Q4c1 (Z : State) (r0 : Addr) (h0 : Heap) (n0 : Nat) (v : Option Value) (h : Heap) (L : List Loc) : Prop := v = none ∧ Fr n0 L ∧ h = h0
set_option maxRecDepth 65536 in
set_option maxHeartbeats 40000000 in
theorem rm4c1 (l : Launch) (Z : State) (a0 : Array Value) (hw : ∀ d ∈ tables_1, d.before a0 Z = true) (ws : List Jvm.Cond) (hS : StF Z) (r0 : Addr) (h0 : Heap) (n0 : Nat) (O0 : Old Z n0 h0) (E_r0 : Exa Z h0 r0 "java/util/HashMap") :
    MetFree l Y0 (head1 (Jvm.Cond.code Y0 jdk_71_method_1_code 1 none :: ws) ({ frames := 1, cells := 0, slots := 0, locals := 12 } : Room)) (fun a U => a = #[(.ref r0)] ∧ Z.Warmed39 U.vm ∧ U.heap = h0) (fun _ _ _ _ _ => True) (fun _ U o U' => ∃ v L, o = .returned v ∧ Q4c1 Z r0 h0 n0 v U'.heap L ∧ FrameEnd U o U' L ({ frames := 1, cells := 0, slots := 0, locals := 12 } : Room).cells ({ frames := 1, cells := 0, slots := 0, locals := 12 } : Room).slots) := by
  refine MetFree.of_bodySF (plainFor_of_name pn_4c1) hisR ?_
  intro p e s m args below meth c s₁ Bd hml0 hP hK
  obtain ⟨rfl, hZ, hh⟩ := hP
  have hx := Bd.exec
  have hby := Bd.bytes
  have hml : c.maxLocals = 1 := hml0
  have hown : s.vm.findClass "java/util/AbstractMap" = some m.cls := findClass_of_methodNamed Bd.named
  have hnm := (name_of_methodNamed Bd.named Bd.method).1
  have X0 : Stand p l e ({ frames := 1, cells := 0, slots := 0, locals := 12 } : Room) s m #[(.ref r0)] below meth c s₁ [] 0 0 := Stand.of_body Bd
  have e0 : s₁.heap = h0 := by rw [← hh, Bd.state]; rfl
  have N0 := Fr.nil n0
  have hS0 := hS
  have S_1 := hS
  have pre0 : ∀ t, Steps p.tables e below (s₁.setTop (mkF m 0 #[.val (.ref r0)] [])) t → Steps p.tables e below (s₁.setTop (entryFrame m #[(.ref r0)] 1)) t := fun t k => castTop (ef_4c1 m r0) k
  obtain ⟨T6, X6, e6, st6⟩ := initO X0 hx hZ hown (hw _ (tk 22 rfl)) (hw _ (tk 8 rfl)) (hw _ (tk 9 rfl)) e0 (g := (mkF m 1 #[.val (.ref r0)] [(.ref r0)])) rfl (by rw [hml]; rfl) rfl (hb hby d4_1) (by decide) (W := 0) (by show 2 * 0 + _ ≤ _; exact Nat.le_of_eq rfl) (by decide)
  obtain ⟨fs, hr, hrun, hended, hW, hsame⟩ := X6.leave (v := none) (fun _ => rfl)
  refine ⟨_, _, pre0 _ ?_, hrun, hended, _, _, rfl, ?_, ⟨_, rfl⟩, hW, hsame.mono (by decide) (by decide)⟩
  · show Steps p.tables e below (s₁.setTop (mkF m 0 #[.val (.ref r0)] [])) _
    refine XS.aloadN X0.here hx rfl (hb hby d4_0) rfl rfl ?_
    show Steps p.tables e below (s₁.setTop (mkF m 1 #[.val (.ref r0)] [(.ref r0)])) _
    refine st6 _ ?_
    show Steps p.tables e below (T6.setTop (mkF m 4 #[.val (.ref r0)] [])) _
    exact X6.returnOut hx Bd.returns (hb hby d4_4) hr
  · show Q4c1 Z r0 h0 n0 _ T6.heap _
    rw [e6]
    exact ⟨rfl, N0, rfl⟩
theorem pn_3x1 : plainName "java/util/HashMap" = true := by first | (simp [plainName, overriddenIn]; done) | decide +kernel
theorem ef_3x1 (m : MethodId) (r0 : Addr) : entryFrame m #[(.ref r0)] 1 = mkF m 0 #[.val (.ref r0)] [] := by first | (simp [entryFrame, mkF, argsToLocals, Value.category]; done) | rfl
def Q3x1 (Z : State) (r0 : Addr) (h0 : Heap) (n0 : Nat) (v : Option Value) (h : Heap) (L : List Loc) : Prop := v = none ∧ Fr n0 L ∧ Old Z n0 h ∧ Keep h0 h [r0] ∧ Fld Z h r0 "java/util/HashMap" "loadFactor" "F" (.float (1061158912 : UInt32))
set_option maxRecDepth 65536 in
set_option maxHeartbeats 40000000 in
theorem rm3x1 (l : Launch) (Z : State) (a0 : Array Value) (hw : ∀ d ∈ tables_1, d.before a0 Z = true) (ws : List Jvm.Cond) (hS : StF Z) (r0 : Addr) (h0 : Heap) (n0 : Nat) (O0 : Old Z n0 h0) (g_r0 : n0 ≤ r0) (E_r0 : Exa Z h0 r0 "java/util/HashMap") (F_loadFactor_r0 : Fld Z h0 r0 "java/util/HashMap" "loadFactor" "F" (.float (0 : UInt32))) :
    MetFree l Y1 (head1 (Jvm.Cond.code Y1 jdk_69_method_7_code 1 none :: ws) ({ frames := 2, cells := 0, slots := 0, locals := 24 } : Room)) (fun a U => a = #[(.ref r0)] ∧ Z.Warmed39 U.vm ∧ U.heap = h0) (fun _ _ _ _ _ => True) (fun _ U o U' => ∃ v L, o = .returned v ∧ Q3x1 Z r0 h0 n0 v U'.heap L ∧ FrameEnd U o U' L ({ frames := 2, cells := 0, slots := 0, locals := 24 } : Room).cells ({ frames := 2, cells := 0, slots := 0, locals := 24 } : Room).slots) := by
  refine MetFree.of_bodySF (plainFor_of_name pn_3x1) hisR ?_
  intro p e s m args below meth c s₁ Bd hml0 hP hK
  obtain ⟨rfl, hZ, hh⟩ := hP
  have hx := Bd.exec
  have hby := Bd.bytes
  have hml : c.maxLocals = 1 := hml0
  have hown : s.vm.findClass "java/util/HashMap" = some m.cls := findClass_of_methodNamed Bd.named
  have hnm := (name_of_methodNamed Bd.named Bd.method).1
  have X0 : Stand p l e ({ frames := 2, cells := 0, slots := 0, locals := 24 } : Room) s m #[(.ref r0)] below meth c s₁ [] 0 0 := Stand.of_body Bd
  have e0 : s₁.heap = h0 := by rw [← hh, Bd.state]; rfl
  have N0 := Fr.nil n0
  have hS0 := hS
  have S_1 := hS
  have pre0 : ∀ t, Steps p.tables e below (s₁.setTop (mkF m 0 #[.val (.ref r0)] [])) t → Steps p.tables e below (s₁.setTop (entryFrame m #[(.ref r0)] 1)) t := fun t k => castTop (ef_3x1 m r0) k
  obtain ⟨_, _, ⟨T7, L7, k7, n7⟩, -, X7, ⟨Lc7, hQ7, l7, y7, z7⟩, st7⟩ := X0.specialBack hx (y := Y0) rfl hown (mvT hZ (hw _ (tk 16 rfl))) (mvT hZ (hw _ (tk 17 rfl))) (mvT hZ (hw _ (tk 21 rfl))) (by decide) (backOf (W := 0) (rm4c1 l Z a0 hw [] hS0 r0 h0 n0 O0 E_r0) hZ (hw _ (tk 21 rfl)) (hw _ (tk 20 rfl)) (by decide) (by decide)) (g := (mkF m 1 #[.val (.ref r0)] [(.ref r0)])) rfl (by rw [hml]; rfl) (Steps.refl _) (a := r0) (argsL := []) (rest := []) (lenOf pd_0 rfl) rfl (by show 2 * 0 + _ ≤ _; exact Nat.le_of_eq rfl) (hb hby d3_1) (fun _ _ => ⟨rfl, e0, (by decide : 0 + 0 ≤ _), (by decide : 0 + 0 ≤ _)⟩)
  dsimp only [Pt.U, Pt.locs, Pt.cells, Pt.slots] at X7 l7 y7 z7 st7 hQ7
  subst l7 y7 z7
  obtain ⟨rv7, N7q, e7⟩ := hQ7
  subst rv7
  have N7 := Fr.app N0 N7q
  obtain ⟨T8, h8, X8, e8, W8, st8⟩ := putF X7 hx hZ hown (host := "") (Or.inl (hw _ (tk 24 rfl))) Via.refl e7 F_loadFactor_r0 E_r0 (Or.inr ⟨(hw _ (tk 25 rfl)), rfl, hnm⟩) (hw _ (tk 11 rfl)) (ty := .float) (by decide) rfl rfl (g := (mkF m 7 #[.val (.ref r0)] [(.float (1061158912 : UInt32)), (.ref r0)])) rfl rfl (hb hby d3_7)
  have Fw8 := F_loadFactor_r0.same W8
  have O8 : Old Z n0 h8 := O0.wr W8 g_r0
  have N8 := Fr.snoc X8 N7 g_r0
  have K8 : Keep h0 h8 [r0] := (Keep.refl h0 [r0]).wr W8 (Or.inl (List.mem_of_getElem? (i := 0) rfl))
  obtain ⟨fs, hr, hrun, hended, hW, hsame⟩ := X8.leave (v := none) (fun _ => rfl)
  refine ⟨_, _, pre0 _ ?_, hrun, hended, _, _, rfl, ?_, ⟨_, rfl⟩, hW, hsame.mono (by decide) (by decide)⟩
  · show Steps p.tables e below (s₁.setTop (mkF m 0 #[.val (.ref r0)] [])) _
    refine XS.aloadN X0.here hx rfl (hb hby d3_0) rfl rfl ?_
    show Steps p.tables e below (s₁.setTop (mkF m 1 #[.val (.ref r0)] [(.ref r0)])) _
    refine st7.trans ?_
    show Steps p.tables e below (T7.setTop (mkF m 4 #[.val (.ref r0)] [])) _
    refine XS.aloadN X7.here hx rfl (hb hby d3_4) rfl rfl ?_
    show Steps p.tables e below (T7.setTop (mkF m 5 #[.val (.ref r0)] [(.ref r0)])) _
    refine own_ldcF X7 hx hown (mvT hZ (hw _ (tk 23 rfl))) (g := (mkF m 5 #[.val (.ref r0)] [(.ref r0)])) rfl (hb hby d3_5) _ ?_
    show Steps p.tables e below (T7.setTop (mkF m 7 #[.val (.ref r0)] [(.float (1061158912 : UInt32)), (.ref r0)])) _
    refine st8 _ ?_
    show Steps p.tables e below (T8.setTop (mkF m 10 #[.val (.ref r0)] [])) _
    exact X8.returnOut hx Bd.returns (hb hby d3_10) hr
  · show Q3x1 Z r0 h0 n0 _ T8.heap _
    rw [e8]
    exact ⟨rfl, N8, O8, K8, Fw8⟩
theorem pn_5x1 : plainName "com/example/vetd/vetd/JointLines" = true := by first | (simp [plainName, overriddenIn]; done) | decide +kernel
theorem ef_5x1 (m : MethodId) (r0 : Addr) : entryFrame m #[(.ref r0)] 1 = mkF m 0 #[.val (.ref r0)] [] := by first | (simp [entryFrame, mkF, argsToLocals, Value.category]; done) | rfl
def Q5x1 (Z : State) (r0 : Addr) (h0 : Heap) (n0 : Nat) (v : Option Value) (h : Heap) (L : List Loc) : Prop := ∃ (b17 : Addr), v = none ∧ Fr n0 L ∧ Old Z n0 h ∧ Keep h0 h [r0] ∧ Fld Z h r0 "com/example/vetd/vetd/JointLines" "byCategory" "Ljava/util/Map;" (.ref b17) ∧ n0 ≤ b17 ∧ h0.size ≤ b17 ∧ Exa Z h b17 "java/util/HashMap" ∧ Fld Z h b17 "java/util/HashMap" "loadFactor" "F" (.float (1061158912 : UInt32))
set_option maxRecDepth 65536 in
set_option maxHeartbeats 40000000 in
theorem rm5x1 (l : Launch) (Z : State) (a0 : Array Value) (hw : ∀ d ∈ tables_1, d.before a0 Z = true) (ws : List Jvm.Cond) (hS : StF Z) (r0 : Addr) (h0 : Heap) (n0 : Nat) (O0 : Old Z n0 h0) (g_r0 : n0 ≤ r0) (E_r0 : Exa Z h0 r0 "com/example/vetd/vetd/JointLines") (F_byCategory_r0 : Fld Z h0 r0 "com/example/vetd/vetd/JointLines" "byCategory" "Ljava/util/Map;" .null) :
    MetFree l Y2 (head1 (Jvm.Cond.code Y2 prog_14_method_1_code 1 none :: ws) ({ frames := 3, cells := 1, slots := 8, locals := 38 } : Room)) (fun a U => a = #[(.ref r0)] ∧ Z.Warmed39 U.vm ∧ U.heap = h0) (fun _ _ _ _ _ => True) (fun _ U o U' => ∃ v L, o = .returned v ∧ Q5x1 Z r0 h0 n0 v U'.heap L ∧ FrameEnd U o U' L ({ frames := 3, cells := 1, slots := 8, locals := 38 } : Room).cells ({ frames := 3, cells := 1, slots := 8, locals := 38 } : Room).slots) := by
  refine MetFree.of_bodySF (plainFor_of_name pn_5x1) hisR ?_
  intro p e s m args below meth c s₁ Bd hml0 hP hK
  obtain ⟨rfl, hZ, hh⟩ := hP
  have hx := Bd.exec
  have hby := Bd.bytes
  have hml : c.maxLocals = 1 := hml0
  have hown : s.vm.findClass "com/example/vetd/vetd/JointLines" = some m.cls := findClass_of_methodNamed Bd.named
  have hnm := (name_of_methodNamed Bd.named Bd.method).1
  have X0 : Stand p l e ({ frames := 3, cells := 1, slots := 8, locals := 38 } : Room) s m #[(.ref r0)] below meth c s₁ [] 0 0 := Stand.of_body Bd
  have e0 : s₁.heap = h0 := by rw [← hh, Bd.state]; rfl
  have N0 := Fr.nil n0
  have hS0 := hS
  have S_1 := hS
  have pre0 : ∀ t, Steps p.tables e below (s₁.setTop (mkF m 0 #[.val (.ref r0)] [])) t → Steps p.tables e below (s₁.setTop (entryFrame m #[(.ref r0)] 1)) t := fun t k => castTop (ef_5x1 m r0) k
  obtain ⟨T16, X16, e16, st16⟩ := initO X0 hx hZ hown (hw _ (tk 34 rfl)) (hw _ (tk 8 rfl)) (hw _ (tk 9 rfl)) e0 (g := (mkF m 1 #[.val (.ref r0)] [(.ref r0)])) rfl (by rw [hml]; rfl) rfl (hb hby d5_1) (by decide) (W := 0) (by show 2 * 0 + _ ≤ _; exact Nat.le_of_eq rfl) (by decide)
  obtain ⟨T17, h17, X17, e17, E17, A17, D17, -, st17⟩ := newO X16 hx hZ hown (hw _ (tk 35 rfl)) (hw _ (tk 11 rfl)) (hw _ (tk 12 rfl)) e16 (g := (mkF m 5 #[.val (.ref r0)] [(.ref r0)])) rfl (hb hby d5_5) (by decide) (by decide)
  obtain ⟨b17, g17⟩ : ∃ z, z = h0.size := ⟨_, rfl⟩
  rw [← g17] at A17 D17 st17
  have g_b17 : n0 ≤ b17 := Nat.le_trans (own_old O0) (Nat.le_of_eq g17.symm)
  have sz_b17 : h0.size ≤ b17 := Nat.le_trans (Keep.refl h0 [r0]).1 (Nat.le_of_eq g17.symm)
  have ne_r0_b17 : r0 ≠ b17 := Nat.ne_of_lt (Nat.lt_of_lt_of_le E_r0.lt (Nat.le_of_eq g17.symm))
  have O17 : Old Z n0 h17 := O0.ext E17
  have K17 : Keep h0 h17 [r0] := (Keep.refl h0 [r0]).ext E17
  have F_loadFactor_b17 : Fld Z h17 b17 "java/util/HashMap" "loadFactor" "F" (.float (0 : UInt32)) := D17 (Or.inr (hw _ (tk 25 rfl))) (ty := .float) (by decide)
  obtain ⟨_, _, ⟨T18, L18, k18, n18⟩, -, X18, ⟨Lc18, hQ18, l18, y18, z18⟩, st18⟩ := X17.specialBack hx (y := Y1) rfl hown (mvT hZ (hw _ (tk 36 rfl))) (mvT hZ (hw _ (tk 14 rfl))) (mvT hZ (hw _ (tk 15 rfl))) (by decide) (backOf (W := 2) (rm3x1 l Z a0 hw [] hS0 b17 h17 n0 O17 g_b17 A17 F_loadFactor_b17) hZ (hw _ (tk 15 rfl)) (hw _ (tk 12 rfl)) (by decide) (by decide)) (g := (mkF m 9 #[.val (.ref r0)] [(.ref b17), (.ref b17), (.ref r0)])) rfl (by rw [hml]; rfl) (Steps.refl _) (a := b17) (argsL := []) (rest := [(.ref b17), (.ref r0)]) (lenOf pd_0 rfl) rfl (by show 2 * 0 + _ ≤ _; exact Nat.le_of_eq rfl) (hb hby d5_9) (fun _ _ => ⟨rfl, e17, (by decide : 1 + 0 ≤ _), (by decide : 8 + 0 ≤ _)⟩)
  dsimp only [Pt.U, Pt.locs, Pt.cells, Pt.slots] at X18 l18 y18 z18 st18 hQ18
  subst l18 y18 z18
  obtain ⟨rv18, N18q, O18, K18c, Fe18_0⟩ := hQ18
  subst rv18
  have N18 := Fr.app N0 N18q
  have K18 : Keep h0 T18.heap [r0] := K17.trans K18c (allS (Or.inr sz_b17) all0)
  have c19 := ((E_r0.ext E17).keep K18c)
  have c20 := ((F_byCategory_r0.ext E17).keep K18c (ninS ne_r0_b17 nin0))
  obtain ⟨T21, h21, X21, e21, W21, st21⟩ := putF X18 hx hZ hown (host := "") (Or.inl (hw _ (tk 37 rfl))) Via.refl rfl c20 c19 (Or.inr ⟨(hw _ (tk 38 rfl)), rfl, hnm⟩) (hw _ (tk 29 rfl)) (ty := (.object "java/util/Map")) (by decide) rfl rfl (g := (mkF m 12 #[.val (.ref r0)] [(.ref b17), (.ref r0)])) rfl rfl (hb hby d5_12)
  have Fw21 := c20.same W21
  have O21 : Old Z n0 h21 := O18.wr W21 g_r0
  have N21 := Fr.snoc X21 N18 g_r0
  have K21 : Keep h0 h21 [r0] := K18.wr W21 (Or.inl (List.mem_of_getElem? (i := 0) rfl))
  obtain ⟨fs, hr, hrun, hended, hW, hsame⟩ := X21.leave (v := none) (fun _ => rfl)
  have c22 := ((A17.keep K18c).wr W21)
  have c23 := (Fe18_0.other W21 (Or.inl (Ne.symm ne_r0_b17)))
  refine ⟨_, _, pre0 _ ?_, hrun, hended, _, _, rfl, ?_, ⟨_, rfl⟩, hW, hsame.mono (by decide) (by decide)⟩
  · show Steps p.tables e below (s₁.setTop (mkF m 0 #[.val (.ref r0)] [])) _
    refine XS.aloadN X0.here hx rfl (hb hby d5_0) rfl rfl ?_
    show Steps p.tables e below (s₁.setTop (mkF m 1 #[.val (.ref r0)] [(.ref r0)])) _
    refine st16 _ ?_
    show Steps p.tables e below (T16.setTop (mkF m 4 #[.val (.ref r0)] [])) _
    refine XS.aloadN X16.here hx rfl (hb hby d5_4) rfl rfl ?_
    show Steps p.tables e below (T16.setTop (mkF m 5 #[.val (.ref r0)] [(.ref r0)])) _
    refine st17 _ ?_
    show Steps p.tables e below (T17.setTop (mkF m 8 #[.val (.ref r0)] [(.ref b17), (.ref r0)])) _
    refine XS.dup X17.here hx rfl (hb hby d5_8) rfl rfl ?_
    show Steps p.tables e below (T17.setTop (mkF m 9 #[.val (.ref r0)] [(.ref b17), (.ref b17), (.ref r0)])) _
    refine st18.trans ?_
    show Steps p.tables e below (T18.setTop (mkF m 12 #[.val (.ref r0)] [(.ref b17), (.ref r0)])) _
    refine st21 _ ?_
    show Steps p.tables e below (T21.setTop (mkF m 15 #[.val (.ref r0)] [])) _
    exact X21.returnOut hx Bd.returns (hb hby d5_15) hr
  · show Q5x1 Z r0 h0 n0 _ T21.heap _
    rw [e21]
    exact ⟨b17, rfl, N21, O21, K21, Fw21, g_b17, sz_b17, c22, c23⟩
theorem pn_1x1 : plainName "com/example/vetd/vetd/Policy$ActionRules" = true := by first | (simp [plainName, overriddenIn]; done) | decide +kernel
theorem ef_1x1 (m : MethodId) (r0 : Addr) (p1 : Int32) : entryFrame m #[(.ref r0), (.int p1)] 2 = mkF m 0 #[.val (.ref r0), .val (.int p1)] [] := by first | (simp [entryFrame, mkF, argsToLocals, Value.category]; done) | rfl
def Q1x1 (Z : State) (r0 : Addr) (p1 : Int32) (h0 : Heap) (n0 : Nat) (v : Option Value) (h : Heap) (L : List Loc) : Prop := ∃ (b40 : Addr) (b68 : Addr) (k68 : ClassId) (b47 : Addr) (b17_48 : Addr) (b58 : Addr), v = none ∧ Fr n0 L ∧ Old Z n0 h ∧ Keep h0 h [r0] ∧ Fld Z h r0 "com/example/vetd/vetd/Policy$ActionRules" "exceptions" "Ljava/util/Map;" (.ref b58) ∧ Fld Z h r0 "com/example/vetd/vetd/Policy$ActionRules" "jointLines" "Lcom/example/vetd/vetd/JointLines;" (.ref b47) ∧ Fld Z h r0 "com/example/vetd/vetd/Policy$ActionRules" "lines" "[Lcom/example/vetd/vetd/Policy$Lines;" (.ref b68) ∧ Fld Z h r0 "com/example/vetd/vetd/Policy$ActionRules" "matchingLines" "Ljava/util/Map;" (.ref b40) ∧ n0 ≤ b40 ∧ h0.size ≤ b40 ∧ Exa Z h b40 "java/util/HashMap" ∧ Fld Z h b40 "java/util/HashMap" "loadFactor" "F" (.float (1061158912 : UInt32)) ∧ n0 ≤ b68 ∧ h0.size ≤ b68 ∧ Arh Z h b68 k68 (.object "com/example/vetd/vetd/Policy$Lines") p1 [] [] .null ∧ Ovr Z k68 "com/example/vetd/vetd/Policy$Lines" ∧ n0 ≤ b47 ∧ h0.size ≤ b47 ∧ Exa Z h b47 "com/example/vetd/vetd/JointLines" ∧ Fld Z h b47 "com/example/vetd/vetd/JointLines" "byCategory" "Ljava/util/Map;" (.ref b17_48) ∧ n0 ≤ b17_48 ∧ h0.size ≤ b17_48 ∧ Exa Z h b17_48 "java/util/HashMap" ∧ Fld Z h b17_48 "java/util/HashMap" "loadFactor" "F" (.float (1061158912 : UInt32)) ∧ n0 ≤ b58 ∧ h0.size ≤ b58 ∧ Exa Z h b58 "java/util/HashMap" ∧ Fld Z h b58 "java/util/HashMap" "loadFactor" "F" (.float (1061158912 : UInt32)) ∧ b40 ≠ b68 ∧ b40 ≠ b47 ∧ b40 ≠ b17_48 ∧ b40 ≠ b58 ∧ b68 ≠ b47 ∧ b68 ≠ b17_48 ∧ b68 ≠ b58 ∧ b47 ≠ b17_48 ∧ b47 ≠ b58 ∧ b17_48 ≠ b58
set_option maxRecDepth 65536 in
set_option maxHeartbeats 40000000 in
theorem rm1x1 (l : Launch) (Z : State) (a0 : Array Value) (hw : ∀ d ∈ tables_1, d.before a0 Z = true) (ws : List Jvm.Cond) (hS : StF Z) (r0 : Addr) (p1 : Int32) (h0 : Heap) (n0 : Nat) (O0 : Old Z n0 h0) (g_r0 : n0 ≤ r0) (E_r0 : Exa Z h0 r0 "com/example/vetd/vetd/Policy$ActionRules") (F_exceptions_r0 : Fld Z h0 r0 "com/example/vetd/vetd/Policy$ActionRules" "exceptions" "Ljava/util/Map;" .null) (F_jointLines_r0 : Fld Z h0 r0 "com/example/vetd/vetd/Policy$ActionRules" "jointLines" "Lcom/example/vetd/vetd/JointLines;" .null) (F_lines_r0 : Fld Z h0 r0 "com/example/vetd/vetd/Policy$ActionRules" "lines" "[Lcom/example/vetd/vetd/Policy$Lines;" .null) (F_matchingLines_r0 : Fld Z h0 r0 "com/example/vetd/vetd/Policy$ActionRules" "matchingLines" "Ljava/util/Map;" .null) (as0 : ¬ (p1 < (0 : Int32))) (cap_p1 : (p1).toNatClampNeg ≤ 8) :
    MetFree l Y3 (head1 (Jvm.Cond.code Y3 prog_19_method_1_code 2 none :: ws) ({ frames := 4, cells := 5, slots := 33, locals := 52 } : Room)) (fun a U => a = #[(.ref r0), (.int p1)] ∧ Z.Warmed39 U.vm ∧ U.heap = h0) (fun _ _ _ _ _ => True) (fun _ U o U' => ∃ v L, o = .returned v ∧ Q1x1 Z r0 p1 h0 n0 v U'.heap L ∧ FrameEnd U o U' L ({ frames := 4, cells := 5, slots := 33, locals := 52 } : Room).cells ({ frames := 4, cells := 5, slots := 33, locals := 52 } : Room).slots) := by
  refine MetFree.of_bodySF (plainFor_of_name pn_1x1) hisR ?_
  intro p e s m args below meth c s₁ Bd hml0 hP hK
  obtain ⟨rfl, hZ, hh⟩ := hP
  have hx := Bd.exec
  have hby := Bd.bytes
  have hml : c.maxLocals = 2 := hml0
  have hown : s.vm.findClass "com/example/vetd/vetd/Policy$ActionRules" = some m.cls := findClass_of_methodNamed Bd.named
  have hnm := (name_of_methodNamed Bd.named Bd.method).1
  have X0 : Stand p l e ({ frames := 4, cells := 5, slots := 33, locals := 52 } : Room) s m #[(.ref r0), (.int p1)] below meth c s₁ [] 0 0 := Stand.of_body Bd
  have e0 : s₁.heap = h0 := by rw [← hh, Bd.state]; rfl
  have N0 := Fr.nil n0
  have hS0 := hS
  have S_1 := hS
  have pre0 : ∀ t, Steps p.tables e below (s₁.setTop (mkF m 0 #[.val (.ref r0), .val (.int p1)] [])) t → Steps p.tables e below (s₁.setTop (entryFrame m #[(.ref r0), (.int p1)] 2)) t := fun t k => castTop (ef_1x1 m r0 p1) k
  obtain ⟨T39, X39, e39, st39⟩ := initO X0 hx hZ hown (hw _ (tk 7 rfl)) (hw _ (tk 8 rfl)) (hw _ (tk 9 rfl)) e0 (g := (mkF m 1 #[.val (.ref r0), .val (.int p1)] [(.ref r0)])) rfl (by rw [hml]; rfl) rfl (hb hby d1_1) (by decide) (W := 0) (by show 2 * 0 + _ ≤ _; exact Nat.le_of_eq rfl) (by decide)
  obtain ⟨T40, h40, X40, e40, E40, A40, D40, -, st40⟩ := newO X39 hx hZ hown (hw _ (tk 10 rfl)) (hw _ (tk 11 rfl)) (hw _ (tk 12 rfl)) e39 (g := (mkF m 5 #[.val (.ref r0), .val (.int p1)] [(.ref r0)])) rfl (hb hby d1_5) (by decide) (by decide)
  obtain ⟨b40, g40⟩ : ∃ z, z = h0.size := ⟨_, rfl⟩
  rw [← g40] at A40 D40 st40
  have g_b40 : n0 ≤ b40 := Nat.le_trans (own_old O0) (Nat.le_of_eq g40.symm)
  have sz_b40 : h0.size ≤ b40 := Nat.le_trans (Keep.refl h0 [r0]).1 (Nat.le_of_eq g40.symm)
  have ne_r0_b40 : r0 ≠ b40 := Nat.ne_of_lt (Nat.lt_of_lt_of_le E_r0.lt (Nat.le_of_eq g40.symm))
  have O40 : Old Z n0 h40 := O0.ext E40
  have K40 : Keep h0 h40 [r0] := (Keep.refl h0 [r0]).ext E40
  have F_loadFactor_b40 : Fld Z h40 b40 "java/util/HashMap" "loadFactor" "F" (.float (0 : UInt32)) := D40 (Or.inr (hw _ (tk 25 rfl))) (ty := .float) (by decide)
  obtain ⟨_, _, ⟨T41, L41, k41, n41⟩, -, X41, ⟨Lc41, hQ41, l41, y41, z41⟩, st41⟩ := X40.specialBack hx (y := Y1) rfl hown (mvT hZ (hw _ (tk 13 rfl))) (mvT hZ (hw _ (tk 14 rfl))) (mvT hZ (hw _ (tk 15 rfl))) (by decide) (backOf (W := 2) (rm3x1 l Z a0 hw [] hS0 b40 h40 n0 O40 g_b40 A40 F_loadFactor_b40) hZ (hw _ (tk 15 rfl)) (hw _ (tk 12 rfl)) (by decide) (by decide)) (g := (mkF m 9 #[.val (.ref r0), .val (.int p1)] [(.ref b40), (.ref b40), (.ref r0)])) rfl (by rw [hml]; rfl) (Steps.refl _) (a := b40) (argsL := []) (rest := [(.ref b40), (.ref r0)]) (lenOf pd_0 rfl) rfl (by show 2 * 0 + _ ≤ _; exact Nat.le_of_eq rfl) (hb hby d1_9) (fun _ _ => ⟨rfl, e40, (by decide : 1 + 0 ≤ _), (by decide : 8 + 0 ≤ _)⟩)
  dsimp only [Pt.U, Pt.locs, Pt.cells, Pt.slots] at X41 l41 y41 z41 st41 hQ41
  subst l41 y41 z41
  obtain ⟨rv41, N41q, O41, K41c, Fe41_0⟩ := hQ41
  subst rv41
  have N41 := Fr.app N0 N41q
  have K41 : Keep h0 T41.heap [r0] := K40.trans K41c (allS (Or.inr sz_b40) all0)
  have c42 := ((E_r0.ext E40).keep K41c)
  have c43 := ((F_matchingLines_r0.ext E40).keep K41c (ninS ne_r0_b40 nin0))
  obtain ⟨T44, h44, X44, e44, W44, st44⟩ := putF X41 hx hZ hown (host := "") (Or.inl (hw _ (tk 26 rfl))) Via.refl rfl c43 c42 (Or.inr ⟨(hw _ (tk 27 rfl)), rfl, hnm⟩) (hw _ (tk 2 rfl)) (ty := (.object "java/util/Map")) (by decide) rfl rfl (g := (mkF m 12 #[.val (.ref r0), .val (.int p1)] [(.ref b40), (.ref r0)])) rfl rfl (hb hby d1_12)
  have Fw44 := c43.same W44
  have O44 : Old Z n0 h44 := O41.wr W44 g_r0
  have N44 := Fr.snoc X44 N41 g_r0
  have K44 : Keep h0 h44 [r0] := K41.wr W44 (Or.inl (List.mem_of_getElem? (i := 0) rfl))
  have c45 := (c42.wr W44)
  have c46 := ((A40.keep K41c).wr W44)
  obtain ⟨T47, h47, X47, e47, E47, A47, D47, -, st47⟩ := newO X44 hx hZ hown (hw _ (tk 28 rfl)) (hw _ (tk 29 rfl)) (hw _ (tk 30 rfl)) e44 (g := (mkF m 16 #[.val (.ref r0), .val (.int p1)] [(.ref r0)])) rfl (hb hby d1_16) (by decide) (by decide)
  obtain ⟨b47, g47⟩ : ∃ z, z = h44.size := ⟨_, rfl⟩
  rw [← g47] at A47 D47 st47
  have g_b47 : n0 ≤ b47 := Nat.le_trans (own_old O44) (Nat.le_of_eq g47.symm)
  have sz_b47 : h0.size ≤ b47 := Nat.le_trans K44.1 (Nat.le_of_eq g47.symm)
  have ne_r0_b47 : r0 ≠ b47 := Nat.ne_of_lt (Nat.lt_of_lt_of_le c45.lt (Nat.le_of_eq g47.symm))
  have ne_b40_b47 : b40 ≠ b47 := Nat.ne_of_lt (Nat.lt_of_lt_of_le c46.lt (Nat.le_of_eq g47.symm))
  have O47 : Old Z n0 h47 := O44.ext E47
  have K47 : Keep h0 h47 [r0] := K44.ext E47
  have F_byCategory_b47 : Fld Z h47 b47 "com/example/vetd/vetd/JointLines" "byCategory" "Ljava/util/Map;" .null := D47 (Or.inr (hw _ (tk 38 rfl))) (ty := (.object "java/util/Map")) (by decide)
  have c49 := (c45.ext E47)
  have c50 := (c46.ext E47)
  obtain ⟨_, _, ⟨T48, L48, k48, n48⟩, -, X48, ⟨Lc48, hQ48, l48, y48, z48⟩, st48⟩ := X47.specialBack hx (y := Y2) rfl hown (mvT hZ (hw _ (tk 31 rfl))) (mvT hZ (hw _ (tk 32 rfl))) (mvT hZ (hw _ (tk 33 rfl))) (by decide) (backOf (W := 2) (rm5x1 l Z a0 hw [] hS0 b47 h47 n0 O47 g_b47 A47 F_byCategory_b47) hZ (hw _ (tk 33 rfl)) (hw _ (tk 30 rfl)) (by decide) (by decide)) (g := (mkF m 20 #[.val (.ref r0), .val (.int p1)] [(.ref b47), (.ref b47), (.ref r0)])) rfl (by rw [hml]; rfl) (Steps.refl _) (a := b47) (argsL := []) (rest := [(.ref b47), (.ref r0)]) (lenOf pd_0 rfl) rfl (by show 2 * 0 + _ ≤ _; exact Nat.le_of_eq rfl) (hb hby d1_20) (fun _ _ => ⟨rfl, e47, (by decide : 2 + 1 ≤ _), (by decide : 9 + 8 ≤ _)⟩)
  dsimp only [Pt.U, Pt.locs, Pt.cells, Pt.slots] at X48 l48 y48 z48 st48 hQ48
  subst l48 y48 z48
  obtain ⟨b17_48, rv48, N48q, O48, K48c, Fe48_0, Fx48_0, Fx48_1, Fx48_2, Fx48_3⟩ := hQ48
  subst rv48
  have N48 := Fr.app N44 N48q
  have K48 : Keep h0 T48.heap [r0] := K47.trans K48c (allS (Or.inr sz_b47) all0)
  have g_b17_48 := Fx48_0
  have sz_b17_48 : h0.size ≤ b17_48 := Nat.le_trans K47.1 Fx48_1
  have ne_r0_b17_48 : r0 ≠ b17_48 := Nat.ne_of_lt (Nat.lt_of_lt_of_le c49.lt Fx48_1)
  have ne_b40_b17_48 : b40 ≠ b17_48 := Nat.ne_of_lt (Nat.lt_of_lt_of_le c50.lt Fx48_1)
  have ne_b47_b17_48 : b47 ≠ b17_48 := Nat.ne_of_lt (Nat.lt_of_lt_of_le A47.lt Fx48_1)
  have c51 := (c49.keep K48c)
  have c52 := (((((F_jointLines_r0.ext E40).keep K41c (ninS ne_r0_b40 nin0)).other W44 (Or.inr (slot_ne (Or.inr (hw _ (tk 40 rfl))) (Or.inr (hw _ (tk 27 rfl))) (by decide) (t := (.object "com/example/vetd/vetd/JointLines")) (t' := (.object "java/util/Map")) (by decide) (by decide)))).ext E47).keep K48c (ninS ne_r0_b47 nin0))
  obtain ⟨T53, h53, X53, e53, W53, st53⟩ := putF X48 hx hZ hown (host := "") (Or.inl (hw _ (tk 39 rfl))) Via.refl rfl c52 c51 (Or.inr ⟨(hw _ (tk 40 rfl)), rfl, hnm⟩) (hw _ (tk 2 rfl)) (ty := (.object "com/example/vetd/vetd/JointLines")) (by decide) rfl rfl (g := (mkF m 23 #[.val (.ref r0), .val (.int p1)] [(.ref b47), (.ref r0)])) rfl rfl (hb hby d1_23)
  have Fw53 := c52.same W53
  have O53 : Old Z n0 h53 := O48.wr W53 g_r0
  have N53 := Fr.snoc X53 N48 g_r0
  have K53 : Keep h0 h53 [r0] := K48.wr W53 (Or.inl (List.mem_of_getElem? (i := 0) rfl))
  have c54 := (c51.wr W53)
  have c55 := ((c50.keep K48c).wr W53)
  have c56 := ((A47.keep K48c).wr W53)
  have c57 := (Fx48_2.wr W53)
  obtain ⟨T58, h58, X58, e58, E58, A58, D58, -, st58⟩ := newO X53 hx hZ hown (hw _ (tk 10 rfl)) (hw _ (tk 11 rfl)) (hw _ (tk 12 rfl)) e53 (g := (mkF m 27 #[.val (.ref r0), .val (.int p1)] [(.ref r0)])) rfl (hb hby d1_27) (by decide) (by decide)
  obtain ⟨b58, g58⟩ : ∃ z, z = h53.size := ⟨_, rfl⟩
  rw [← g58] at A58 D58 st58
  have g_b58 : n0 ≤ b58 := Nat.le_trans (own_old O53) (Nat.le_of_eq g58.symm)
  have sz_b58 : h0.size ≤ b58 := Nat.le_trans K53.1 (Nat.le_of_eq g58.symm)
  have ne_r0_b58 : r0 ≠ b58 := Nat.ne_of_lt (Nat.lt_of_lt_of_le c54.lt (Nat.le_of_eq g58.symm))
  have ne_b40_b58 : b40 ≠ b58 := Nat.ne_of_lt (Nat.lt_of_lt_of_le c55.lt (Nat.le_of_eq g58.symm))
  have ne_b47_b58 : b47 ≠ b58 := Nat.ne_of_lt (Nat.lt_of_lt_of_le c56.lt (Nat.le_of_eq g58.symm))
  have ne_b17_48_b58 : b17_48 ≠ b58 := Nat.ne_of_lt (Nat.lt_of_lt_of_le c57.lt (Nat.le_of_eq g58.symm))
  have O58 : Old Z n0 h58 := O53.ext E58
  have K58 : Keep h0 h58 [r0] := K53.ext E58
  have F_loadFactor_b58 : Fld Z h58 b58 "java/util/HashMap" "loadFactor" "F" (.float (0 : UInt32)) := D58 (Or.inr (hw _ (tk 25 rfl))) (ty := .float) (by decide)
  obtain ⟨_, _, ⟨T59, L59, k59, n59⟩, -, X59, ⟨Lc59, hQ59, l59, y59, z59⟩, st59⟩ := X58.specialBack hx (y := Y1) rfl hown (mvT hZ (hw _ (tk 13 rfl))) (mvT hZ (hw _ (tk 14 rfl))) (mvT hZ (hw _ (tk 15 rfl))) (by decide) (backOf (W := 2) (rm3x1 l Z a0 hw [] hS0 b58 h58 n0 O58 g_b58 A58 F_loadFactor_b58) hZ (hw _ (tk 15 rfl)) (hw _ (tk 12 rfl)) (by decide) (by decide)) (g := (mkF m 31 #[.val (.ref r0), .val (.int p1)] [(.ref b58), (.ref b58), (.ref r0)])) rfl (by rw [hml]; rfl) (Steps.refl _) (a := b58) (argsL := []) (rest := [(.ref b58), (.ref r0)]) (lenOf pd_0 rfl) rfl (by show 2 * 0 + _ ≤ _; exact Nat.le_of_eq rfl) (hb hby d1_31) (fun _ _ => ⟨rfl, e58, (by decide : 4 + 0 ≤ _), (by decide : 25 + 0 ≤ _)⟩)
  dsimp only [Pt.U, Pt.locs, Pt.cells, Pt.slots] at X59 l59 y59 z59 st59 hQ59
  subst l59 y59 z59
  obtain ⟨rv59, N59q, O59, K59c, Fe59_0⟩ := hQ59
  subst rv59
  have N59 := Fr.app N53 N59q
  have K59 : Keep h0 T59.heap [r0] := K58.trans K59c (allS (Or.inr sz_b58) all0)
  have c60 := ((c54.ext E58).keep K59c)
  have c61 := ((((((((F_exceptions_r0.ext E40).keep K41c (ninS ne_r0_b40 nin0)).other W44 (Or.inr (slot_ne (Or.inr (hw _ (tk 42 rfl))) (Or.inr (hw _ (tk 27 rfl))) (by decide) (t := (.object "java/util/Map")) (t' := (.object "java/util/Map")) (by decide) (by decide)))).ext E47).keep K48c (ninS ne_r0_b47 nin0)).other W53 (Or.inr (slot_ne (Or.inr (hw _ (tk 42 rfl))) (Or.inr (hw _ (tk 40 rfl))) (by decide) (t := (.object "java/util/Map")) (t' := (.object "com/example/vetd/vetd/JointLines")) (by decide) (by decide)))).ext E58).keep K59c (ninS ne_r0_b58 nin0))
  obtain ⟨T62, h62, X62, e62, W62, st62⟩ := putF X59 hx hZ hown (host := "") (Or.inl (hw _ (tk 41 rfl))) Via.refl rfl c61 c60 (Or.inr ⟨(hw _ (tk 42 rfl)), rfl, hnm⟩) (hw _ (tk 2 rfl)) (ty := (.object "java/util/Map")) (by decide) rfl rfl (g := (mkF m 34 #[.val (.ref r0), .val (.int p1)] [(.ref b58), (.ref r0)])) rfl rfl (hb hby d1_34)
  have Fw62 := c61.same W62
  have O62 : Old Z n0 h62 := O59.wr W62 g_r0
  have N62 := Fr.snoc X62 N59 g_r0
  have K62 : Keep h0 h62 [r0] := K59.wr W62 (Or.inl (List.mem_of_getElem? (i := 0) rfl))
  have c63 := (c60.wr W62)
  have c64 := (((c55.ext E58).keep K59c).wr W62)
  have c65 := (((c56.ext E58).keep K59c).wr W62)
  have c66 := (((c57.ext E58).keep K59c).wr W62)
  have c67 := ((A58.keep K59c).wr W62)
  obtain ⟨T68, h68, k68, X68, e68, E68, A68, OV68, st68⟩ := newR X62 hx hZ hown (hw _ (tk 43 rfl)) (hw _ (tk 44 rfl)) e62 (g := (mkF m 39 #[.val (.ref r0), .val (.int p1)] [(.int p1), (.ref r0)])) rfl (hb hby d1_39) rfl as0 (cap := 8) cap_p1 (by decide) (by decide) (by decide)
  obtain ⟨b68, g68⟩ : ∃ z, z = h62.size := ⟨_, rfl⟩
  rw [← g68] at A68 st68
  have g_b68 : n0 ≤ b68 := Nat.le_trans (own_old O62) (Nat.le_of_eq g68.symm)
  have sz_b68 : h0.size ≤ b68 := Nat.le_trans K62.1 (Nat.le_of_eq g68.symm)
  have ne_r0_b68 : r0 ≠ b68 := Nat.ne_of_lt (Nat.lt_of_lt_of_le c63.lt (Nat.le_of_eq g68.symm))
  have ne_b40_b68 : b40 ≠ b68 := Nat.ne_of_lt (Nat.lt_of_lt_of_le c64.lt (Nat.le_of_eq g68.symm))
  have ne_b47_b68 : b47 ≠ b68 := Nat.ne_of_lt (Nat.lt_of_lt_of_le c65.lt (Nat.le_of_eq g68.symm))
  have ne_b17_48_b68 : b17_48 ≠ b68 := Nat.ne_of_lt (Nat.lt_of_lt_of_le c66.lt (Nat.le_of_eq g68.symm))
  have ne_b58_b68 : b58 ≠ b68 := Nat.ne_of_lt (Nat.lt_of_lt_of_le c67.lt (Nat.le_of_eq g68.symm))
  have O68 : Old Z n0 h68 := O62.ext E68
  have K68 : Keep h0 h68 [r0] := K62.ext E68
  have V_b68 : Arh Z h68 b68 k68 (.object "com/example/vetd/vetd/Policy$Lines") p1 [] [] .null := (Arv.new A68 as0).arh
  have c69 := (c63.ext E68)
  have c70 := ((((((((((F_lines_r0.ext E40).keep K41c (ninS ne_r0_b40 nin0)).other W44 (Or.inr (slot_ne (Or.inr (hw _ (tk 46 rfl))) (Or.inr (hw _ (tk 27 rfl))) (by decide) (t := (.array (.object "com/example/vetd/vetd/Policy$Lines"))) (t' := (.object "java/util/Map")) (by decide) (by decide)))).ext E47).keep K48c (ninS ne_r0_b47 nin0)).other W53 (Or.inr (slot_ne (Or.inr (hw _ (tk 46 rfl))) (Or.inr (hw _ (tk 40 rfl))) (by decide) (t := (.array (.object "com/example/vetd/vetd/Policy$Lines"))) (t' := (.object "com/example/vetd/vetd/JointLines")) (by decide) (by decide)))).ext E58).keep K59c (ninS ne_r0_b58 nin0)).other W62 (Or.inr (slot_ne (Or.inr (hw _ (tk 46 rfl))) (Or.inr (hw _ (tk 42 rfl))) (by decide) (t := (.array (.object "com/example/vetd/vetd/Policy$Lines"))) (t' := (.object "java/util/Map")) (by decide) (by decide)))).ext E68)
  obtain ⟨T71, h71, X71, e71, W71, st71⟩ := putF X68 hx hZ hown (host := "") (Or.inl (hw _ (tk 45 rfl))) Via.refl e68 c70 c69 (Or.inr ⟨(hw _ (tk 46 rfl)), rfl, hnm⟩) (hw _ (tk 2 rfl)) (ty := (.array (.object "com/example/vetd/vetd/Policy$Lines"))) (by decide) rfl rfl (g := (mkF m 42 #[.val (.ref r0), .val (.int p1)] [(.ref b68), (.ref r0)])) rfl rfl (hb hby d1_42)
  have Fw71 := c70.same W71
  have O71 : Old Z n0 h71 := O68.wr W71 g_r0
  have N71 := Fr.snoc X71 N62 g_r0
  have K71 : Keep h0 h71 [r0] := K68.wr W71 (Or.inl (List.mem_of_getElem? (i := 0) rfl))
  obtain ⟨fs, hr, hrun, hended, hW, hsame⟩ := X71.leave (v := none) (fun _ => rfl)
  have c72 := ((c64.ext E68).wr W71)
  have c73 := (((((((((Fe41_0.other W44 (Or.inl (Ne.symm ne_r0_b40))).ext E47).keep K48c (ninS ne_b40_b47 nin0)).other W53 (Or.inl (Ne.symm ne_r0_b40))).ext E58).keep K59c (ninS ne_b40_b58 nin0)).other W62 (Or.inl (Ne.symm ne_r0_b40))).ext E68).other W71 (Or.inl (Ne.symm ne_r0_b40)))
  have c74 := (V_b68.other W71 (Ne.symm ne_r0_b68))
  have c75 := ((c65.ext E68).wr W71)
  have c76 := ((((((Fe48_0.other W53 (Or.inl (Ne.symm ne_r0_b47))).ext E58).keep K59c (ninS ne_b47_b58 nin0)).other W62 (Or.inl (Ne.symm ne_r0_b47))).ext E68).other W71 (Or.inl (Ne.symm ne_r0_b47)))
  have c77 := ((c66.ext E68).wr W71)
  have c78 := ((((((Fx48_3.other W53 (Or.inl (Ne.symm ne_r0_b17_48))).ext E58).keep K59c (ninS ne_b17_48_b58 nin0)).other W62 (Or.inl (Ne.symm ne_r0_b17_48))).ext E68).other W71 (Or.inl (Ne.symm ne_r0_b17_48)))
  have c79 := ((c67.ext E68).wr W71)
  have c80 := (((Fe59_0.other W62 (Or.inl (Ne.symm ne_r0_b58))).ext E68).other W71 (Or.inl (Ne.symm ne_r0_b58)))
  have c81 := ((Fw62.ext E68).other W71 (Or.inr (slot_ne (Or.inr (hw _ (tk 42 rfl))) (Or.inr (hw _ (tk 46 rfl))) (by decide) (t := (.object "java/util/Map")) (t' := (.array (.object "com/example/vetd/vetd/Policy$Lines"))) (by decide) (by decide))))
  have c82 := (((((Fw53.ext E58).keep K59c (ninS ne_r0_b58 nin0)).other W62 (Or.inr (slot_ne (Or.inr (hw _ (tk 40 rfl))) (Or.inr (hw _ (tk 42 rfl))) (by decide) (t := (.object "com/example/vetd/vetd/JointLines")) (t' := (.object "java/util/Map")) (by decide) (by decide)))).ext E68).other W71 (Or.inr (slot_ne (Or.inr (hw _ (tk 40 rfl))) (Or.inr (hw _ (tk 46 rfl))) (by decide) (t := (.object "com/example/vetd/vetd/JointLines")) (t' := (.array (.object "com/example/vetd/vetd/Policy$Lines"))) (by decide) (by decide))))
  have c83 := ((((((((Fw44.ext E47).keep K48c (ninS ne_r0_b47 nin0)).other W53 (Or.inr (slot_ne (Or.inr (hw _ (tk 27 rfl))) (Or.inr (hw _ (tk 40 rfl))) (by decide) (t := (.object "java/util/Map")) (t' := (.object "com/example/vetd/vetd/JointLines")) (by decide) (by decide)))).ext E58).keep K59c (ninS ne_r0_b58 nin0)).other W62 (Or.inr (slot_ne (Or.inr (hw _ (tk 27 rfl))) (Or.inr (hw _ (tk 42 rfl))) (by decide) (t := (.object "java/util/Map")) (t' := (.object "java/util/Map")) (by decide) (by decide)))).ext E68).other W71 (Or.inr (slot_ne (Or.inr (hw _ (tk 27 rfl))) (Or.inr (hw _ (tk 46 rfl))) (by decide) (t := (.object "java/util/Map")) (t' := (.array (.object "com/example/vetd/vetd/Policy$Lines"))) (by decide) (by decide))))
  refine ⟨_, _, pre0 _ ?_, hrun, hended, _, _, rfl, ?_, ⟨_, rfl⟩, hW, hsame.mono (by decide) (by decide)⟩
  · show Steps p.tables e below (s₁.setTop (mkF m 0 #[.val (.ref r0), .val (.int p1)] [])) _
    refine XS.aloadN X0.here hx rfl (hb hby d1_0) rfl rfl ?_
    show Steps p.tables e below (s₁.setTop (mkF m 1 #[.val (.ref r0), .val (.int p1)] [(.ref r0)])) _
    refine st39 _ ?_
    show Steps p.tables e below (T39.setTop (mkF m 4 #[.val (.ref r0), .val (.int p1)] [])) _
    refine XS.aloadN X39.here hx rfl (hb hby d1_4) rfl rfl ?_
    show Steps p.tables e below (T39.setTop (mkF m 5 #[.val (.ref r0), .val (.int p1)] [(.ref r0)])) _
    refine st40 _ ?_
    show Steps p.tables e below (T40.setTop (mkF m 8 #[.val (.ref r0), .val (.int p1)] [(.ref b40), (.ref r0)])) _
    refine XS.dup X40.here hx rfl (hb hby d1_8) rfl rfl ?_
    show Steps p.tables e below (T40.setTop (mkF m 9 #[.val (.ref r0), .val (.int p1)] [(.ref b40), (.ref b40), (.ref r0)])) _
    refine st41.trans ?_
    show Steps p.tables e below (T41.setTop (mkF m 12 #[.val (.ref r0), .val (.int p1)] [(.ref b40), (.ref r0)])) _
    refine st44 _ ?_
    show Steps p.tables e below (T44.setTop (mkF m 15 #[.val (.ref r0), .val (.int p1)] [])) _
    refine XS.aloadN X44.here hx rfl (hb hby d1_15) rfl rfl ?_
    show Steps p.tables e below (T44.setTop (mkF m 16 #[.val (.ref r0), .val (.int p1)] [(.ref r0)])) _
    refine st47 _ ?_
    show Steps p.tables e below (T47.setTop (mkF m 19 #[.val (.ref r0), .val (.int p1)] [(.ref b47), (.ref r0)])) _
    refine XS.dup X47.here hx rfl (hb hby d1_19) rfl rfl ?_
    show Steps p.tables e below (T47.setTop (mkF m 20 #[.val (.ref r0), .val (.int p1)] [(.ref b47), (.ref b47), (.ref r0)])) _
    refine st48.trans ?_
    show Steps p.tables e below (T48.setTop (mkF m 23 #[.val (.ref r0), .val (.int p1)] [(.ref b47), (.ref r0)])) _
    refine st53 _ ?_
    show Steps p.tables e below (T53.setTop (mkF m 26 #[.val (.ref r0), .val (.int p1)] [])) _
    refine XS.aloadN X53.here hx rfl (hb hby d1_26) rfl rfl ?_
    show Steps p.tables e below (T53.setTop (mkF m 27 #[.val (.ref r0), .val (.int p1)] [(.ref r0)])) _
    refine st58 _ ?_
    show Steps p.tables e below (T58.setTop (mkF m 30 #[.val (.ref r0), .val (.int p1)] [(.ref b58), (.ref r0)])) _
    refine XS.dup X58.here hx rfl (hb hby d1_30) rfl rfl ?_
    show Steps p.tables e below (T58.setTop (mkF m 31 #[.val (.ref r0), .val (.int p1)] [(.ref b58), (.ref b58), (.ref r0)])) _
    refine st59.trans ?_
    show Steps p.tables e below (T59.setTop (mkF m 34 #[.val (.ref r0), .val (.int p1)] [(.ref b58), (.ref r0)])) _
    refine st62 _ ?_
    show Steps p.tables e below (T62.setTop (mkF m 37 #[.val (.ref r0), .val (.int p1)] [])) _
    refine XS.aloadN X62.here hx rfl (hb hby d1_37) rfl rfl ?_
    show Steps p.tables e below (T62.setTop (mkF m 38 #[.val (.ref r0), .val (.int p1)] [(.ref r0)])) _
    refine XS.iloadN X62.here hx rfl (hb hby d1_38) rfl ?_
    show Steps p.tables e below (T62.setTop (mkF m 39 #[.val (.ref r0), .val (.int p1)] [(.int p1), (.ref r0)])) _
    refine st68 _ ?_
    show Steps p.tables e below (T68.setTop (mkF m 42 #[.val (.ref r0), .val (.int p1)] [(.ref b68), (.ref r0)])) _
    refine st71 _ ?_
    show Steps p.tables e below (T71.setTop (mkF m 45 #[.val (.ref r0), .val (.int p1)] [])) _
    exact X71.returnOut hx Bd.returns (hb hby d1_45) hr
  · show Q1x1 Z r0 p1 h0 n0 _ T71.heap _
    rw [e71]
    exact ⟨b40, b68, k68, b47, b17_48, b58, rfl, N71, O71, K71, c81, c82, Fw71, c83, g_b40, sz_b40, c72, c73, g_b68, sz_b68, c74, OV68, g_b47, sz_b47, c75, c76, g_b17_48, sz_b17_48, c77, c78, g_b58, sz_b58, c79, c80, ne_b40_b68, ne_b40_b47, ne_b40_b17_48, ne_b40_b58, (Ne.symm ne_b47_b68), (Ne.symm ne_b17_48_b68), (Ne.symm ne_b58_b68), ne_b47_b17_48, ne_b47_b58, ne_b17_48_b58⟩
theorem pn_9 : plainName "java/util/BitSet" = true := by first | (simp [plainName, overriddenIn]; done) | decide +kernel
theorem ef_9 (m : MethodId) (p0 : Int32) : entryFrame m #[(.int p0)] 1 = mkF m 0 #[.val (.int p0)] [] := by first | (simp [entryFrame, mkF, argsToLocals, Value.category]; done) | rfl
def sp9 (p0 : Int32) : Int32 := (p0 >>> ((6 : Int32) &&& 31))
def Q9 (Z : State) (p0 : Int32) (h0 : Heap) (n0 : Nat) (v : Option Value) (h : Heap) (L : List Loc) : Prop := v = some (.int (sp9 p0)) ∧ Fr n0 L ∧ h = h0
set_option maxRecDepth 65536 in
set_option maxHeartbeats 40000000 in
theorem rm9 (l : Launch) (Z : State) (a0 : Array Value) (hw : ∀ d ∈ tables_1, d.before a0 Z = true) (ws : List Jvm.Cond) (hS : StF Z) (p0 : Int32) (h0 : Heap) (n0 : Nat) (O0 : Old Z n0 h0) :
    MetFree l Y4 (head1 (Jvm.Cond.code Y4 jdk_92_method_1_code 1 (some .int) :: ws) ({ frames := 0, cells := 0, slots := 0, locals := 0 } : Room)) (fun a U => a = #[(.int p0)] ∧ Z.Warmed39 U.vm ∧ U.heap = h0) (fun _ _ _ _ _ => True) (fun _ U o U' => ∃ v L, o = .returned v ∧ Q9 Z p0 h0 n0 v U'.heap L ∧ FrameEnd U o U' L ({ frames := 0, cells := 0, slots := 0, locals := 0 } : Room).cells ({ frames := 0, cells := 0, slots := 0, locals := 0 } : Room).slots) := by
  refine MetFree.of_bodySF (plainFor_of_name pn_9) hisR ?_
  intro p e s m args below meth c s₁ Bd hml0 hP hK
  obtain ⟨rfl, hZ, hh⟩ := hP
  have hx := Bd.exec
  have hby := Bd.bytes
  have hml : c.maxLocals = 1 := hml0
  have hown : s.vm.findClass "java/util/BitSet" = some m.cls := findClass_of_methodNamed Bd.named
  have hnm := (name_of_methodNamed Bd.named Bd.method).1
  have X0 : Stand p l e ({ frames := 0, cells := 0, slots := 0, locals := 0 } : Room) s m #[(.int p0)] below meth c s₁ [] 0 0 := Stand.of_body Bd
  have e0 : s₁.heap = h0 := by rw [← hh, Bd.state]; rfl
  have N0 := Fr.nil n0
  have hS0 := hS
  have S_1 := hS
  have pre0 : ∀ t, Steps p.tables e below (s₁.setTop (mkF m 0 #[.val (.int p0)] [])) t → Steps p.tables e below (s₁.setTop (entryFrame m #[(.int p0)] 1)) t := fun t k => castTop (ef_9 m p0) k
  obtain ⟨fs, hr, hrun, hended, hW, hsame⟩ := X0.leave (v := some (.int (p0 >>> ((6 : Int32) &&& 31)))) (fun h => by rw [Bd.returns] at h; cases h)
  refine ⟨_, _, pre0 _ ?_, hrun, hended, _, _, rfl, ?_, ⟨_, rfl⟩, hW, hsame.mono (by decide) (by decide)⟩
  · show Steps p.tables e below (s₁.setTop (mkF m 0 #[.val (.int p0)] [])) _
    refine XS.iloadN X0.here hx rfl (hb hby d9_0) rfl ?_
    show Steps p.tables e below (s₁.setTop (mkF m 1 #[.val (.int p0)] [(.int p0)])) _
    refine XS.bipush X0.here hx rfl (hb hby d9_1) ?_
    show Steps p.tables e below (s₁.setTop (mkF m 3 #[.val (.int p0)] [(.int (6 : Int32)), (.int p0)])) _
    refine XS.ishr X0.here hx rfl (hb hby d9_3) rfl ?_
    show Steps p.tables e below (s₁.setTop (mkF m 4 #[.val (.int p0)] [(.int (p0 >>> ((6 : Int32) &&& 31)))])) _
    exact retI X0 hx Bd.returns (hb hby d9_4) hr
  · show Q9 Z p0 h0 n0 _ s₁.heap _
    rw [e0]
    exact ⟨by unfold sp9; rfl, N0, rfl⟩
theorem pn_8x1 : plainName "java/util/BitSet" = true := by first | (simp [plainName, overriddenIn]; done) | decide +kernel
theorem ef_8x1 (m : MethodId) (r0 : Addr) : entryFrame m #[(.ref r0), (.int (64 : Int32))] 2 = mkF m 0 #[.val (.ref r0), .val (.int (64 : Int32))] [] := by first | (simp [entryFrame, mkF, argsToLocals, Value.category]; done) | rfl
def Q8x1 (Z : State) (r0 : Addr) (h0 : Heap) (n0 : Nat) (v : Option Value) (h : Heap) (L : List Loc) : Prop := ∃ (b101 : Addr) (k101 : ClassId), v = none ∧ Fr n0 L ∧ Old Z n0 h ∧ Keep h0 h [r0] ∧ Fld Z h r0 "java/util/BitSet" "sizeIsSticky" "Z" (.int (0 : Int32)) ∧ Fld Z h r0 "java/util/BitSet" "words" "[J" (.ref b101) ∧ Fld Z h r0 "java/util/BitSet" "wordsInUse" "I" (.int (0 : Int32)) ∧ n0 ≤ b101 ∧ h0.size ≤ b101 ∧ Arv Z h b101 k101 .long ((((64 : Int32) - (1 : Int32)) >>> ((6 : Int32) &&& 31)) + (1 : Int32)) [(.long (0 : Int64))] (.long (0 : Int64))
set_option maxRecDepth 65536 in
set_option maxHeartbeats 40000000 in
theorem rm8x1 (l : Launch) (Z : State) (a0 : Array Value) (hw : ∀ d ∈ tables_1, d.before a0 Z = true) (ws : List Jvm.Cond) (hS : StF Z) (r0 : Addr) (h0 : Heap) (n0 : Nat) (O0 : Old Z n0 h0) (g_r0 : n0 ≤ r0) (E_r0 : Exa Z h0 r0 "java/util/BitSet") (F_sizeIsSticky_r0 : Fld Z h0 r0 "java/util/BitSet" "sizeIsSticky" "Z" (.int (0 : Int32))) (F_words_r0 : Fld Z h0 r0 "java/util/BitSet" "words" "[J" .null) (F_wordsInUse_r0 : Fld Z h0 r0 "java/util/BitSet" "wordsInUse" "I" (.int (0 : Int32))) :
    MetFree l Y5 (head1 (Jvm.Cond.code Y5 jdk_92_method_6_code 2 none :: ws) ({ frames := 1, cells := 1, slots := 1, locals := 13 } : Room)) (fun a U => a = #[(.ref r0), (.int (64 : Int32))] ∧ Z.Warmed39 U.vm ∧ U.heap = h0) (fun _ _ _ _ _ => True) (fun _ U o U' => ∃ v L, o = .returned v ∧ Q8x1 Z r0 h0 n0 v U'.heap L ∧ FrameEnd U o U' L ({ frames := 1, cells := 1, slots := 1, locals := 13 } : Room).cells ({ frames := 1, cells := 1, slots := 1, locals := 13 } : Room).slots) := by
  refine MetFree.of_bodySF (plainFor_of_name pn_8x1) hisR ?_
  intro p e s m args below meth c s₁ Bd hml0 hP hK
  obtain ⟨rfl, hZ, hh⟩ := hP
  have hx := Bd.exec
  have hby := Bd.bytes
  have hml : c.maxLocals = 2 := hml0
  have hown : s.vm.findClass "java/util/BitSet" = some m.cls := findClass_of_methodNamed Bd.named
  have hnm := (name_of_methodNamed Bd.named Bd.method).1
  have X0 : Stand p l e ({ frames := 1, cells := 1, slots := 1, locals := 13 } : Room) s m #[(.ref r0), (.int (64 : Int32))] below meth c s₁ [] 0 0 := Stand.of_body Bd
  have e0 : s₁.heap = h0 := by rw [← hh, Bd.state]; rfl
  have N0 := Fr.nil n0
  have hS0 := hS
  have S_1 := hS
  have pre0 : ∀ t, Steps p.tables e below (s₁.setTop (mkF m 0 #[.val (.ref r0), .val (.int (64 : Int32))] [])) t → Steps p.tables e below (s₁.setTop (entryFrame m #[(.ref r0), (.int (64 : Int32))] 2)) t := fun t k => castTop (ef_8x1 m r0) k
  obtain ⟨_, _, ⟨T100, L100, k100, n100⟩, -, X100, ⟨Lc100, hQ100, l100, y100, z100⟩, st100⟩ := Jvm.LawKit.callS X0 hx (y := Y4) hown (mvT hZ (hw _ (tk 70 rfl))) (mvT hZ (hw _ (tk 71 rfl))) (mvT hZ (hw _ (tk 56 rfl))) (mvT hZ (hw _ (tk 72 rfl))) (by decide) (backOf (W := 1) (rm9 l Z a0 hw [] hS0 ((64 : Int32) - (1 : Int32)) h0 n0 O0) hZ (hw _ (tk 72 rfl)) (hw _ (tk 56 rfl)) (by decide) (by decide)) (g := (mkF m 4 #[.val (.ref r0), .val (.int (64 : Int32))] [(.int ((64 : Int32) - (1 : Int32))), (.ref r0)])) rfl (by rw [hml]; rfl) (argsL := [(.int ((64 : Int32) - (1 : Int32)))]) (rest := [(.ref r0)]) (lenOf pd_2 rfl) rfl (by show 2 * 0 + _ ≤ _; exact Nat.le_of_eq rfl) (hb hby d8_4) (fun _ _ => ⟨rfl, e0, (by decide : 0 + 0 ≤ _), (by decide : 0 + 0 ≤ _)⟩)
  dsimp only [Pt.U, Pt.locs, Pt.cells, Pt.slots] at X100 l100 y100 z100 st100 hQ100
  subst l100 y100 z100
  obtain ⟨rv100, N100q, e100⟩ := hQ100
  rw [show sp9 ((64 : Int32) - (1 : Int32)) = (((64 : Int32) - (1 : Int32)) >>> ((6 : Int32) &&& 31)) from by unfold sp9; rfl] at rv100
  subst rv100
  have N100 := Fr.app N0 N100q
  obtain ⟨T101, h101, k101, X101, e101, E101, A101, st101⟩ := newP X100 hx hZ (hw _ (tk 73 rfl)) e100 (g := (mkF m 9 #[.val (.ref r0), .val (.int (64 : Int32))] [(.int ((((64 : Int32) - (1 : Int32)) >>> ((6 : Int32) &&& 31)) + (1 : Int32))), (.ref r0)])) rfl (hb hby d8_9) rfl (by decide) (cap := 1) (by decide) (by decide) (by decide) (by decide)
  obtain ⟨b101, g101⟩ : ∃ z, z = h0.size := ⟨_, rfl⟩
  rw [← g101] at A101 st101
  have g_b101 : n0 ≤ b101 := Nat.le_trans (own_old O0) (Nat.le_of_eq g101.symm)
  have sz_b101 : h0.size ≤ b101 := Nat.le_trans (Keep.refl h0 [r0]).1 (Nat.le_of_eq g101.symm)
  have ne_r0_b101 : r0 ≠ b101 := Nat.ne_of_lt (Nat.lt_of_lt_of_le E_r0.lt (Nat.le_of_eq g101.symm))
  have O101 : Old Z n0 h101 := O0.ext E101
  have K101 : Keep h0 h101 [r0] := (Keep.refl h0 [r0]).ext E101
  have V_b101 : Arv Z h101 b101 k101 .long ((((64 : Int32) - (1 : Int32)) >>> ((6 : Int32) &&& 31)) + (1 : Int32)) [(.long (0 : Int64))] (.long (0 : Int64)) := (Arv.new A101 (by decide)).pad (pad_rep [] (.long (0 : Int64)) 1)
  have c102 := (E_r0.ext E101)
  have c103 := (F_words_r0.ext E101)
  obtain ⟨T104, h104, X104, e104, W104, st104⟩ := putF X101 hx hZ hown (host := "") (Or.inl (hw _ (tk 74 rfl))) Via.refl e101 c103 c102 (Or.inl (hw _ (tk 75 rfl))) (hw _ (tk 55 rfl)) (ty := (.array .long)) (by decide) rfl rfl (g := (mkF m 11 #[.val (.ref r0), .val (.int (64 : Int32))] [(.ref b101), (.ref r0)])) rfl rfl (hb hby d8_11)
  have Fw104 := c103.same W104
  have O104 : Old Z n0 h104 := O101.wr W104 g_r0
  have N104 := Fr.snoc X104 N100 g_r0
  have K104 : Keep h0 h104 [r0] := K101.wr W104 (Or.inl (List.mem_of_getElem? (i := 0) rfl))
  obtain ⟨fs, hr, hrun, hended, hW, hsame⟩ := X104.leave (v := none) (fun _ => rfl)
  have c105 := (V_b101.other W104 (Ne.symm ne_r0_b101))
  have c106 := ((F_sizeIsSticky_r0.ext E101).other W104 (Or.inr (slot_ne (Or.inl (hw _ (tk 64 rfl))) (Or.inl (hw _ (tk 75 rfl))) (by decide) (t := .boolean) (t' := (.array .long)) (by decide) (by decide))))
  have c107 := ((F_wordsInUse_r0.ext E101).other W104 (Or.inr (slot_ne (Or.inl (hw _ (tk 62 rfl))) (Or.inl (hw _ (tk 75 rfl))) (by decide) (t := .int) (t' := (.array .long)) (by decide) (by decide))))
  refine ⟨_, _, pre0 _ ?_, hrun, hended, _, _, rfl, ?_, ⟨_, rfl⟩, hW, hsame.mono (by decide) (by decide)⟩
  · show Steps p.tables e below (s₁.setTop (mkF m 0 #[.val (.ref r0), .val (.int (64 : Int32))] [])) _
    refine XS.aloadN X0.here hx rfl (hb hby d8_0) rfl rfl ?_
    show Steps p.tables e below (s₁.setTop (mkF m 1 #[.val (.ref r0), .val (.int (64 : Int32))] [(.ref r0)])) _
    refine XS.iloadN X0.here hx rfl (hb hby d8_1) rfl ?_
    show Steps p.tables e below (s₁.setTop (mkF m 2 #[.val (.ref r0), .val (.int (64 : Int32))] [(.int (64 : Int32)), (.ref r0)])) _
    refine XS.iconst X0.here hx rfl (hb hby d8_2) ?_
    show Steps p.tables e below (s₁.setTop (mkF m 3 #[.val (.ref r0), .val (.int (64 : Int32))] [(.int (1 : Int32)), (.int (64 : Int32)), (.ref r0)])) _
    refine XS.isub X0.here hx rfl (hb hby d8_3) rfl ?_
    show Steps p.tables e below (s₁.setTop (mkF m 4 #[.val (.ref r0), .val (.int (64 : Int32))] [(.int ((64 : Int32) - (1 : Int32))), (.ref r0)])) _
    refine st100 _ ?_
    show Steps p.tables e below (T100.setTop (mkF m 7 #[.val (.ref r0), .val (.int (64 : Int32))] [(.int (((64 : Int32) - (1 : Int32)) >>> ((6 : Int32) &&& 31))), (.ref r0)])) _
    refine XS.iconst X100.here hx rfl (hb hby d8_7) ?_
    show Steps p.tables e below (T100.setTop (mkF m 8 #[.val (.ref r0), .val (.int (64 : Int32))] [(.int (1 : Int32)), (.int (((64 : Int32) - (1 : Int32)) >>> ((6 : Int32) &&& 31))), (.ref r0)])) _
    refine XS.iadd X100.here hx rfl (hb hby d8_8) rfl ?_
    show Steps p.tables e below (T100.setTop (mkF m 9 #[.val (.ref r0), .val (.int (64 : Int32))] [(.int ((((64 : Int32) - (1 : Int32)) >>> ((6 : Int32) &&& 31)) + (1 : Int32))), (.ref r0)])) _
    refine st101 _ ?_
    show Steps p.tables e below (T101.setTop (mkF m 11 #[.val (.ref r0), .val (.int (64 : Int32))] [(.ref b101), (.ref r0)])) _
    refine st104 _ ?_
    show Steps p.tables e below (T104.setTop (mkF m 14 #[.val (.ref r0), .val (.int (64 : Int32))] [])) _
    exact X104.returnOut hx Bd.returns (hb hby d8_14) hr
  · show Q8x1 Z r0 h0 n0 _ T104.heap _
    rw [e104]
    exact ⟨b101, k101, rfl, N104, O104, K104, c106, Fw104, c107, g_b101, sz_b101, c105⟩
theorem pn_7x1 : plainName "java/util/BitSet" = true := by first | (simp [plainName, overriddenIn]; done) | decide +kernel
theorem ef_7x1 (m : MethodId) (r0 : Addr) : entryFrame m #[(.ref r0)] 1 = mkF m 0 #[.val (.ref r0)] [] := by first | (simp [entryFrame, mkF, argsToLocals, Value.category]; done) | rfl
def Q7x1 (Z : State) (r0 : Addr) (h0 : Heap) (n0 : Nat) (v : Option Value) (h : Heap) (L : List Loc) : Prop := ∃ (b101_111 : Addr) (k101_111 : ClassId), v = none ∧ Fr n0 L ∧ Old Z n0 h ∧ Keep h0 h [r0] ∧ Fld Z h r0 "java/util/BitSet" "sizeIsSticky" "Z" (.int (0 : Int32)) ∧ Fld Z h r0 "java/util/BitSet" "words" "[J" (.ref b101_111) ∧ Fld Z h r0 "java/util/BitSet" "wordsInUse" "I" (.int (0 : Int32)) ∧ n0 ≤ b101_111 ∧ h0.size ≤ b101_111 ∧ Arv Z h b101_111 k101_111 .long ((((64 : Int32) - (1 : Int32)) >>> ((6 : Int32) &&& 31)) + (1 : Int32)) [(.long (0 : Int64))] (.long (0 : Int64))
set_option maxRecDepth 65536 in
set_option maxHeartbeats 40000000 in
theorem rm7x1 (l : Launch) (Z : State) (a0 : Array Value) (hw : ∀ d ∈ tables_1, d.before a0 Z = true) (ws : List Jvm.Cond) (hS : StF Z) (r0 : Addr) (h0 : Heap) (n0 : Nat) (O0 : Old Z n0 h0) (g_r0 : n0 ≤ r0) (E_r0 : Exa Z h0 r0 "java/util/BitSet") (F_sizeIsSticky_r0 : Fld Z h0 r0 "java/util/BitSet" "sizeIsSticky" "Z" (.int (0 : Int32))) (F_words_r0 : Fld Z h0 r0 "java/util/BitSet" "words" "[J" .null) (F_wordsInUse_r0 : Fld Z h0 r0 "java/util/BitSet" "wordsInUse" "I" (.int (0 : Int32))) :
    MetFree l Y6 (head1 (Jvm.Cond.code Y6 jdk_92_method_4_code 1 none :: ws) ({ frames := 2, cells := 1, slots := 1, locals := 26 } : Room)) (fun a U => a = #[(.ref r0)] ∧ Z.Warmed39 U.vm ∧ U.heap = h0) (fun _ _ _ _ _ => True) (fun _ U o U' => ∃ v L, o = .returned v ∧ Q7x1 Z r0 h0 n0 v U'.heap L ∧ FrameEnd U o U' L ({ frames := 2, cells := 1, slots := 1, locals := 26 } : Room).cells ({ frames := 2, cells := 1, slots := 1, locals := 26 } : Room).slots) := by
  refine MetFree.of_bodySF (plainFor_of_name pn_7x1) hisR ?_
  intro p e s m args below meth c s₁ Bd hml0 hP hK
  obtain ⟨rfl, hZ, hh⟩ := hP
  have hx := Bd.exec
  have hby := Bd.bytes
  have hml : c.maxLocals = 1 := hml0
  have hown : s.vm.findClass "java/util/BitSet" = some m.cls := findClass_of_methodNamed Bd.named
  have hnm := (name_of_methodNamed Bd.named Bd.method).1
  have X0 : Stand p l e ({ frames := 2, cells := 1, slots := 1, locals := 26 } : Room) s m #[(.ref r0)] below meth c s₁ [] 0 0 := Stand.of_body Bd
  have e0 : s₁.heap = h0 := by rw [← hh, Bd.state]; rfl
  have N0 := Fr.nil n0
  have hS0 := hS
  have S_1 := hS
  have pre0 : ∀ t, Steps p.tables e below (s₁.setTop (mkF m 0 #[.val (.ref r0)] [])) t → Steps p.tables e below (s₁.setTop (entryFrame m #[(.ref r0)] 1)) t := fun t k => castTop (ef_7x1 m r0) k
  obtain ⟨T95, X95, e95, st95⟩ := initO X0 hx hZ hown (hw _ (tk 60 rfl)) (hw _ (tk 8 rfl)) (hw _ (tk 9 rfl)) e0 (g := (mkF m 1 #[.val (.ref r0)] [(.ref r0)])) rfl (by rw [hml]; rfl) rfl (hb hby d7_1) (by decide) (W := 0) (by show 2 * 0 + _ ≤ _; exact Nat.le_of_eq rfl) (by decide)
  obtain ⟨T96, h96, X96, e96, W96, st96⟩ := putF X95 hx hZ hown (host := "") (Or.inl (hw _ (tk 61 rfl))) Via.refl e95 F_wordsInUse_r0 E_r0 (Or.inl (hw _ (tk 62 rfl))) (hw _ (tk 55 rfl)) (ty := .int) (by decide) rfl rfl (g := (mkF m 6 #[.val (.ref r0)] [(.int (0 : Int32)), (.ref r0)])) rfl rfl (hb hby d7_6)
  have Fw96 := F_wordsInUse_r0.same W96
  have O96 : Old Z n0 h96 := O0.wr W96 g_r0
  have N96 := Fr.snoc X96 N0 g_r0
  have K96 : Keep h0 h96 [r0] := (Keep.refl h0 [r0]).wr W96 (Or.inl (List.mem_of_getElem? (i := 0) rfl))
  have c97 := (E_r0.wr W96)
  have c98 := (F_sizeIsSticky_r0.other W96 (Or.inr (slot_ne (Or.inl (hw _ (tk 64 rfl))) (Or.inl (hw _ (tk 62 rfl))) (by decide) (t := .boolean) (t' := .int) (by decide) (by decide))))
  obtain ⟨T99, h99, X99, e99, W99, st99⟩ := putFN X96 hx hZ hown (hw _ (tk 63 rfl)) Via.refl e96 c98 c97 (Or.inl (hw _ (tk 64 rfl))) (hw _ (tk 55 rfl)) (ty := .boolean) (v' := (.int (0 : Int32))) (by decide) rfl (by decide) (g := (mkF m 11 #[.val (.ref r0)] [(.int (0 : Int32)), (.ref r0)])) rfl rfl (hb hby d7_11)
  have Fw99 := c98.same W99
  have O99 : Old Z n0 h99 := O96.wr W99 g_r0
  have N99 := Fr.snoc X99 N96 g_r0
  have K99 : Keep h0 h99 [r0] := K96.wr W99 (Or.inl (List.mem_of_getElem? (i := 0) rfl))
  have c108 := (c97.wr W99)
  have c109 := ((F_words_r0.other W96 (Or.inr (slot_ne (Or.inl (hw _ (tk 75 rfl))) (Or.inl (hw _ (tk 62 rfl))) (by decide) (t := (.array .long)) (t' := .int) (by decide) (by decide)))).other W99 (Or.inr (slot_ne (Or.inl (hw _ (tk 75 rfl))) (Or.inl (hw _ (tk 64 rfl))) (by decide) (t := (.array .long)) (t' := .boolean) (by decide) (by decide))))
  have c110 := (Fw96.other W99 (Or.inr (slot_ne (Or.inl (hw _ (tk 62 rfl))) (Or.inl (hw _ (tk 64 rfl))) (by decide) (t := .int) (t' := .boolean) (by decide) (by decide))))
  obtain ⟨cq111, q111, q111'⟩ := c108.cell
  obtain ⟨_, _, ⟨T111, L111, k111, n111⟩, -, X111, ⟨Lc111, hQ111, l111, y111, z111⟩, st111⟩ := X99.privateBack hx (y := Y5) hown (mvT hZ (hw _ (tk 65 rfl))) (mvT hZ (hw _ (tk 66 rfl))) (mvT hZ (hw _ (tk 68 rfl))) (Cond.privateMethod_at (mvP hZ (hw _ (tk 67 rfl)) (args := #[]))) (mvT hZ (hw _ (tk 69 rfl))) (by decide) (backOf (W := 0) (rm8x1 l Z a0 hw [] hS0 r0 h99 n0 O99 g_r0 c108 Fw99 c109 c110) hZ (hw _ (tk 69 rfl)) (hw _ (tk 56 rfl)) (by decide) (by decide)) (g := (mkF m 17 #[.val (.ref r0)] [(.int (64 : Int32)), (.ref r0)])) rfl (by rw [hml]; rfl) (Steps.refl _) (a := r0) (by rw [e99]; exact q111) q111' (argsL := [(.int (64 : Int32))]) (rest := []) (lenOf pd_1 rfl) rfl (by show 2 * 0 + _ ≤ _; exact Nat.le_of_eq rfl) (hb hby d7_17) (fun _ _ => ⟨rfl, e99, (by decide : 0 + 1 ≤ _), (by decide : 0 + 1 ≤ _)⟩)
  dsimp only [Pt.U, Pt.locs, Pt.cells, Pt.slots] at X111 l111 y111 z111 st111 hQ111
  subst l111 y111 z111
  obtain ⟨b101_111, k101_111, rv111, N111q, O111, K111c, Fe111_0, Fe111_1, Fe111_2, Fx111_0, Fx111_1, Fx111_2⟩ := hQ111
  subst rv111
  have N111 := Fr.app N99 N111q
  have K111 : Keep h0 T111.heap [r0] := K99.trans K111c (allS (Or.inl (List.mem_of_getElem? (i := 0) rfl)) all0)
  have g_b101_111 := Fx111_0
  have sz_b101_111 : h0.size ≤ b101_111 := Nat.le_trans K99.1 Fx111_1
  have ne_r0_b101_111 : r0 ≠ b101_111 := Nat.ne_of_lt (Nat.lt_of_lt_of_le c108.lt Fx111_1)
  have c112 := (c108.keep K111c)
  obtain ⟨T113, h113, X113, e113, W113, st113⟩ := putFN X111 hx hZ hown (hw _ (tk 63 rfl)) Via.refl rfl Fe111_0 c112 (Or.inl (hw _ (tk 64 rfl))) (hw _ (tk 55 rfl)) (ty := .boolean) (v' := (.int (0 : Int32))) (by decide) rfl (by decide) (g := (mkF m 22 #[.val (.ref r0)] [(.int (0 : Int32)), (.ref r0)])) rfl rfl (hb hby d7_22)
  have Fw113 := Fe111_0.same W113
  have O113 : Old Z n0 h113 := O111.wr W113 g_r0
  have N113 := Fr.snoc X113 N111 g_r0
  have K113 : Keep h0 h113 [r0] := K111.wr W113 (Or.inl (List.mem_of_getElem? (i := 0) rfl))
  obtain ⟨fs, hr, hrun, hended, hW, hsame⟩ := X113.leave (v := none) (fun _ => rfl)
  have c114 := (Fx111_2.other W113 (Ne.symm ne_r0_b101_111))
  have c115 := (Fe111_1.other W113 (Or.inr (slot_ne (Or.inl (hw _ (tk 75 rfl))) (Or.inl (hw _ (tk 64 rfl))) (by decide) (t := (.array .long)) (t' := .boolean) (by decide) (by decide))))
  have c116 := (Fe111_2.other W113 (Or.inr (slot_ne (Or.inl (hw _ (tk 62 rfl))) (Or.inl (hw _ (tk 64 rfl))) (by decide) (t := .int) (t' := .boolean) (by decide) (by decide))))
  refine ⟨_, _, pre0 _ ?_, hrun, hended, _, _, rfl, ?_, ⟨_, rfl⟩, hW, hsame.mono (by decide) (by decide)⟩
  · show Steps p.tables e below (s₁.setTop (mkF m 0 #[.val (.ref r0)] [])) _
    refine XS.aloadN X0.here hx rfl (hb hby d7_0) rfl rfl ?_
    show Steps p.tables e below (s₁.setTop (mkF m 1 #[.val (.ref r0)] [(.ref r0)])) _
    refine st95 _ ?_
    show Steps p.tables e below (T95.setTop (mkF m 4 #[.val (.ref r0)] [])) _
    refine XS.aloadN X95.here hx rfl (hb hby d7_4) rfl rfl ?_
    show Steps p.tables e below (T95.setTop (mkF m 5 #[.val (.ref r0)] [(.ref r0)])) _
    refine XS.iconst X95.here hx rfl (hb hby d7_5) ?_
    show Steps p.tables e below (T95.setTop (mkF m 6 #[.val (.ref r0)] [(.int (0 : Int32)), (.ref r0)])) _
    refine st96 _ ?_
    show Steps p.tables e below (T96.setTop (mkF m 9 #[.val (.ref r0)] [])) _
    refine XS.aloadN X96.here hx rfl (hb hby d7_9) rfl rfl ?_
    show Steps p.tables e below (T96.setTop (mkF m 10 #[.val (.ref r0)] [(.ref r0)])) _
    refine XS.iconst X96.here hx rfl (hb hby d7_10) ?_
    show Steps p.tables e below (T96.setTop (mkF m 11 #[.val (.ref r0)] [(.int (0 : Int32)), (.ref r0)])) _
    refine st99 _ ?_
    show Steps p.tables e below (T99.setTop (mkF m 14 #[.val (.ref r0)] [])) _
    refine XS.aloadN X99.here hx rfl (hb hby d7_14) rfl rfl ?_
    show Steps p.tables e below (T99.setTop (mkF m 15 #[.val (.ref r0)] [(.ref r0)])) _
    refine XS.bipush X99.here hx rfl (hb hby d7_15) ?_
    show Steps p.tables e below (T99.setTop (mkF m 17 #[.val (.ref r0)] [(.int (64 : Int32)), (.ref r0)])) _
    refine st111.trans ?_
    show Steps p.tables e below (T111.setTop (mkF m 20 #[.val (.ref r0)] [])) _
    refine XS.aloadN X111.here hx rfl (hb hby d7_20) rfl rfl ?_
    show Steps p.tables e below (T111.setTop (mkF m 21 #[.val (.ref r0)] [(.ref r0)])) _
    refine XS.iconst X111.here hx rfl (hb hby d7_21) ?_
    show Steps p.tables e below (T111.setTop (mkF m 22 #[.val (.ref r0)] [(.int (0 : Int32)), (.ref r0)])) _
    refine st113 _ ?_
    show Steps p.tables e below (T113.setTop (mkF m 25 #[.val (.ref r0)] [])) _
    exact X113.returnOut hx Bd.returns (hb hby d7_25) hr
  · show Q7x1 Z r0 h0 n0 _ T113.heap _
    rw [e113]
    exact ⟨b101_111, k101_111, rfl, N113, O113, K113, Fw113, c115, c116, g_b101_111, sz_b101_111, c114⟩
theorem pn_6x1 : plainName "com/example/vetd/vetd/Policy$Lines" = true := by first | (simp [plainName, overriddenIn]; done) | decide +kernel
theorem ef_6x1 (m : MethodId) (r0 : Addr) : entryFrame m #[(.ref r0)] 1 = mkF m 0 #[.val (.ref r0)] [] := by first | (simp [entryFrame, mkF, argsToLocals, Value.category]; done) | rfl
def Q6x1 (Z : State) (r0 : Addr) (h0 : Heap) (n0 : Nat) (v : Option Value) (h : Heap) (L : List Loc) : Prop := ∃ (b94 : Addr) (b101_111_117 : Addr) (k101_111_117 : ClassId) (b125 : Addr) (b101_111_126 : Addr) (k101_111_126 : ClassId), v = none ∧ Fr n0 L ∧ Old Z n0 h ∧ Keep h0 h [r0] ∧ Fld Z h r0 "com/example/vetd/vetd/Policy$Lines" "denied" "Ljava/util/BitSet;" (.ref b125) ∧ Fld Z h r0 "com/example/vetd/vetd/Policy$Lines" "permitted" "Ljava/util/BitSet;" (.ref b94) ∧ n0 ≤ b94 ∧ h0.size ≤ b94 ∧ Exa Z h b94 "java/util/BitSet" ∧ Fld Z h b94 "java/util/BitSet" "wordsInUse" "I" (.int (0 : Int32)) ∧ Fld Z h b94 "java/util/BitSet" "sizeIsSticky" "Z" (.int (0 : Int32)) ∧ Fld Z h b94 "java/util/BitSet" "words" "[J" (.ref b101_111_117) ∧ n0 ≤ b101_111_117 ∧ h0.size ≤ b101_111_117 ∧ Arv Z h b101_111_117 k101_111_117 .long ((((64 : Int32) - (1 : Int32)) >>> ((6 : Int32) &&& 31)) + (1 : Int32)) [(.long (0 : Int64))] (.long (0 : Int64)) ∧ n0 ≤ b125 ∧ h0.size ≤ b125 ∧ Exa Z h b125 "java/util/BitSet" ∧ Fld Z h b125 "java/util/BitSet" "wordsInUse" "I" (.int (0 : Int32)) ∧ Fld Z h b125 "java/util/BitSet" "sizeIsSticky" "Z" (.int (0 : Int32)) ∧ Fld Z h b125 "java/util/BitSet" "words" "[J" (.ref b101_111_126) ∧ n0 ≤ b101_111_126 ∧ h0.size ≤ b101_111_126 ∧ Arv Z h b101_111_126 k101_111_126 .long ((((64 : Int32) - (1 : Int32)) >>> ((6 : Int32) &&& 31)) + (1 : Int32)) [(.long (0 : Int64))] (.long (0 : Int64)) ∧ b94 ≠ b101_111_117 ∧ b94 ≠ b125 ∧ b94 ≠ b101_111_126 ∧ b101_111_117 ≠ b125 ∧ b101_111_117 ≠ b101_111_126 ∧ b125 ≠ b101_111_126
set_option maxRecDepth 65536 in
set_option maxHeartbeats 40000000 in
theorem rm6x1 (l : Launch) (Z : State) (a0 : Array Value) (hw : ∀ d ∈ tables_1, d.before a0 Z = true) (ws : List Jvm.Cond) (hS : StF Z) (r0 : Addr) (h0 : Heap) (n0 : Nat) (O0 : Old Z n0 h0) (g_r0 : n0 ≤ r0) (E_r0 : Exa Z h0 r0 "com/example/vetd/vetd/Policy$Lines") (F_denied_r0 : Fld Z h0 r0 "com/example/vetd/vetd/Policy$Lines" "denied" "Ljava/util/BitSet;" .null) (F_permitted_r0 : Fld Z h0 r0 "com/example/vetd/vetd/Policy$Lines" "permitted" "Ljava/util/BitSet;" .null) :
    MetFree l Y7 (head1 (Jvm.Cond.code Y7 prog_20_method_1_code 1 none :: ws) ({ frames := 3, cells := 4, slots := 8, locals := 40 } : Room)) (fun a U => a = #[(.ref r0)] ∧ Z.Warmed39 U.vm ∧ U.heap = h0) (fun _ _ _ _ _ => True) (fun _ U o U' => ∃ v L, o = .returned v ∧ Q6x1 Z r0 h0 n0 v U'.heap L ∧ FrameEnd U o U' L ({ frames := 3, cells := 4, slots := 8, locals := 40 } : Room).cells ({ frames := 3, cells := 4, slots := 8, locals := 40 } : Room).slots) := by
  refine MetFree.of_bodySF (plainFor_of_name pn_6x1) hisR ?_
  intro p e s m args below meth c s₁ Bd hml0 hP hK
  obtain ⟨rfl, hZ, hh⟩ := hP
  have hx := Bd.exec
  have hby := Bd.bytes
  have hml : c.maxLocals = 1 := hml0
  have hown : s.vm.findClass "com/example/vetd/vetd/Policy$Lines" = some m.cls := findClass_of_methodNamed Bd.named
  have hnm := (name_of_methodNamed Bd.named Bd.method).1
  have X0 : Stand p l e ({ frames := 3, cells := 4, slots := 8, locals := 40 } : Room) s m #[(.ref r0)] below meth c s₁ [] 0 0 := Stand.of_body Bd
  have e0 : s₁.heap = h0 := by rw [← hh, Bd.state]; rfl
  have N0 := Fr.nil n0
  have hS0 := hS
  have S_1 := hS
  have pre0 : ∀ t, Steps p.tables e below (s₁.setTop (mkF m 0 #[.val (.ref r0)] [])) t → Steps p.tables e below (s₁.setTop (entryFrame m #[(.ref r0)] 1)) t := fun t k => castTop (ef_6x1 m r0) k
  obtain ⟨T93, X93, e93, st93⟩ := initO X0 hx hZ hown (hw _ (tk 53 rfl)) (hw _ (tk 8 rfl)) (hw _ (tk 9 rfl)) e0 (g := (mkF m 1 #[.val (.ref r0)] [(.ref r0)])) rfl (by rw [hml]; rfl) rfl (hb hby d6_1) (by decide) (W := 0) (by show 2 * 0 + _ ≤ _; exact Nat.le_of_eq rfl) (by decide)
  obtain ⟨T94, h94, X94, e94, E94, A94, D94, -, st94⟩ := newO X93 hx hZ hown (hw _ (tk 54 rfl)) (hw _ (tk 55 rfl)) (hw _ (tk 56 rfl)) e93 (g := (mkF m 5 #[.val (.ref r0)] [(.ref r0)])) rfl (hb hby d6_5) (by decide) (by decide)
  obtain ⟨b94, g94⟩ : ∃ z, z = h0.size := ⟨_, rfl⟩
  rw [← g94] at A94 D94 st94
  have g_b94 : n0 ≤ b94 := Nat.le_trans (own_old O0) (Nat.le_of_eq g94.symm)
  have sz_b94 : h0.size ≤ b94 := Nat.le_trans (Keep.refl h0 [r0]).1 (Nat.le_of_eq g94.symm)
  have ne_r0_b94 : r0 ≠ b94 := Nat.ne_of_lt (Nat.lt_of_lt_of_le E_r0.lt (Nat.le_of_eq g94.symm))
  have O94 : Old Z n0 h94 := O0.ext E94
  have K94 : Keep h0 h94 [r0] := (Keep.refl h0 [r0]).ext E94
  have F_wordsInUse_b94 : Fld Z h94 b94 "java/util/BitSet" "wordsInUse" "I" (.int (0 : Int32)) := D94 (Or.inl (hw _ (tk 62 rfl))) (ty := .int) (by decide)
  have F_sizeIsSticky_b94 : Fld Z h94 b94 "java/util/BitSet" "sizeIsSticky" "Z" (.int (0 : Int32)) := D94 (Or.inl (hw _ (tk 64 rfl))) (ty := .boolean) (by decide)
  have F_words_b94 : Fld Z h94 b94 "java/util/BitSet" "words" "[J" .null := D94 (Or.inl (hw _ (tk 75 rfl))) (ty := (.array .long)) (by decide)
  have c118 := (E_r0.ext E94)
  obtain ⟨_, _, ⟨T117, L117, k117, n117⟩, -, X117, ⟨Lc117, hQ117, l117, y117, z117⟩, st117⟩ := X94.specialBack hx (y := Y6) rfl hown (mvT hZ (hw _ (tk 57 rfl))) (mvT hZ (hw _ (tk 58 rfl))) (mvT hZ (hw _ (tk 59 rfl))) (by decide) (backOf (W := 2) (rm7x1 l Z a0 hw [] hS0 b94 h94 n0 O94 g_b94 A94 F_sizeIsSticky_b94 F_words_b94 F_wordsInUse_b94) hZ (hw _ (tk 59 rfl)) (hw _ (tk 56 rfl)) (by decide) (by decide)) (g := (mkF m 9 #[.val (.ref r0)] [(.ref b94), (.ref b94), (.ref r0)])) rfl (by rw [hml]; rfl) (Steps.refl _) (a := b94) (argsL := []) (rest := [(.ref b94), (.ref r0)]) (lenOf pd_0 rfl) rfl (by show 2 * 0 + _ ≤ _; exact Nat.le_of_eq rfl) (hb hby d6_9) (fun _ _ => ⟨rfl, e94, (by decide : 1 + 1 ≤ _), (by decide : 3 + 1 ≤ _)⟩)
  dsimp only [Pt.U, Pt.locs, Pt.cells, Pt.slots] at X117 l117 y117 z117 st117 hQ117
  subst l117 y117 z117
  obtain ⟨b101_111_117, k101_111_117, rv117, N117q, O117, K117c, Fe117_0, Fe117_1, Fe117_2, Fx117_0, Fx117_1, Fx117_2⟩ := hQ117
  subst rv117
  have N117 := Fr.app N0 N117q
  have K117 : Keep h0 T117.heap [r0] := K94.trans K117c (allS (Or.inr sz_b94) all0)
  have g_b101_111_117 := Fx117_0
  have sz_b101_111_117 : h0.size ≤ b101_111_117 := Nat.le_trans K94.1 Fx117_1
  have ne_r0_b101_111_117 : r0 ≠ b101_111_117 := Nat.ne_of_lt (Nat.lt_of_lt_of_le c118.lt Fx117_1)
  have ne_b94_b101_111_117 : b94 ≠ b101_111_117 := Nat.ne_of_lt (Nat.lt_of_lt_of_le A94.lt Fx117_1)
  have c119 := (c118.keep K117c)
  have c120 := ((F_permitted_r0.ext E94).keep K117c (ninS ne_r0_b94 nin0))
  obtain ⟨T121, h121, X121, e121, W121, st121⟩ := putF X117 hx hZ hown (host := "") (Or.inl (hw _ (tk 76 rfl))) Via.refl rfl c120 c119 (Or.inr ⟨(hw _ (tk 77 rfl)), rfl, hnm⟩) (hw _ (tk 48 rfl)) (ty := (.object "java/util/BitSet")) (by decide) rfl rfl (g := (mkF m 12 #[.val (.ref r0)] [(.ref b94), (.ref r0)])) rfl rfl (hb hby d6_12)
  have Fw121 := c120.same W121
  have O121 : Old Z n0 h121 := O117.wr W121 g_r0
  have N121 := Fr.snoc X121 N117 g_r0
  have K121 : Keep h0 h121 [r0] := K117.wr W121 (Or.inl (List.mem_of_getElem? (i := 0) rfl))
  have c122 := (c119.wr W121)
  have c123 := ((A94.keep K117c).wr W121)
  have c124 := (Fx117_2.other W121 (Ne.symm ne_r0_b101_111_117))
  obtain ⟨T125, h125, X125, e125, E125, A125, D125, -, st125⟩ := newO X121 hx hZ hown (hw _ (tk 54 rfl)) (hw _ (tk 55 rfl)) (hw _ (tk 56 rfl)) e121 (g := (mkF m 16 #[.val (.ref r0)] [(.ref r0)])) rfl (hb hby d6_16) (by decide) (by decide)
  obtain ⟨b125, g125⟩ : ∃ z, z = h121.size := ⟨_, rfl⟩
  rw [← g125] at A125 D125 st125
  have g_b125 : n0 ≤ b125 := Nat.le_trans (own_old O121) (Nat.le_of_eq g125.symm)
  have sz_b125 : h0.size ≤ b125 := Nat.le_trans K121.1 (Nat.le_of_eq g125.symm)
  have ne_r0_b125 : r0 ≠ b125 := Nat.ne_of_lt (Nat.lt_of_lt_of_le c122.lt (Nat.le_of_eq g125.symm))
  have ne_b94_b125 : b94 ≠ b125 := Nat.ne_of_lt (Nat.lt_of_lt_of_le c123.lt (Nat.le_of_eq g125.symm))
  have ne_b101_111_117_b125 : b101_111_117 ≠ b125 := Nat.ne_of_lt (Nat.lt_of_lt_of_le c124.lt (Nat.le_of_eq g125.symm))
  have O125 : Old Z n0 h125 := O121.ext E125
  have K125 : Keep h0 h125 [r0] := K121.ext E125
  have F_wordsInUse_b125 : Fld Z h125 b125 "java/util/BitSet" "wordsInUse" "I" (.int (0 : Int32)) := D125 (Or.inl (hw _ (tk 62 rfl))) (ty := .int) (by decide)
  have F_sizeIsSticky_b125 : Fld Z h125 b125 "java/util/BitSet" "sizeIsSticky" "Z" (.int (0 : Int32)) := D125 (Or.inl (hw _ (tk 64 rfl))) (ty := .boolean) (by decide)
  have F_words_b125 : Fld Z h125 b125 "java/util/BitSet" "words" "[J" .null := D125 (Or.inl (hw _ (tk 75 rfl))) (ty := (.array .long)) (by decide)
  have c127 := (c122.ext E125)
  have c128 := (c123.ext E125)
  have c129 := (c124.ext E125)
  obtain ⟨_, _, ⟨T126, L126, k126, n126⟩, -, X126, ⟨Lc126, hQ126, l126, y126, z126⟩, st126⟩ := X125.specialBack hx (y := Y6) rfl hown (mvT hZ (hw _ (tk 57 rfl))) (mvT hZ (hw _ (tk 58 rfl))) (mvT hZ (hw _ (tk 59 rfl))) (by decide) (backOf (W := 2) (rm7x1 l Z a0 hw [] hS0 b125 h125 n0 O125 g_b125 A125 F_sizeIsSticky_b125 F_words_b125 F_wordsInUse_b125) hZ (hw _ (tk 59 rfl)) (hw _ (tk 56 rfl)) (by decide) (by decide)) (g := (mkF m 20 #[.val (.ref r0)] [(.ref b125), (.ref b125), (.ref r0)])) rfl (by rw [hml]; rfl) (Steps.refl _) (a := b125) (argsL := []) (rest := [(.ref b125), (.ref r0)]) (lenOf pd_0 rfl) rfl (by show 2 * 0 + _ ≤ _; exact Nat.le_of_eq rfl) (hb hby d6_20) (fun _ _ => ⟨rfl, e125, (by decide : 3 + 1 ≤ _), (by decide : 7 + 1 ≤ _)⟩)
  dsimp only [Pt.U, Pt.locs, Pt.cells, Pt.slots] at X126 l126 y126 z126 st126 hQ126
  subst l126 y126 z126
  obtain ⟨b101_111_126, k101_111_126, rv126, N126q, O126, K126c, Fe126_0, Fe126_1, Fe126_2, Fx126_0, Fx126_1, Fx126_2⟩ := hQ126
  subst rv126
  have N126 := Fr.app N121 N126q
  have K126 : Keep h0 T126.heap [r0] := K125.trans K126c (allS (Or.inr sz_b125) all0)
  have g_b101_111_126 := Fx126_0
  have sz_b101_111_126 : h0.size ≤ b101_111_126 := Nat.le_trans K125.1 Fx126_1
  have ne_r0_b101_111_126 : r0 ≠ b101_111_126 := Nat.ne_of_lt (Nat.lt_of_lt_of_le c127.lt Fx126_1)
  have ne_b94_b101_111_126 : b94 ≠ b101_111_126 := Nat.ne_of_lt (Nat.lt_of_lt_of_le c128.lt Fx126_1)
  have ne_b101_111_117_b101_111_126 : b101_111_117 ≠ b101_111_126 := Nat.ne_of_lt (Nat.lt_of_lt_of_le c129.lt Fx126_1)
  have ne_b125_b101_111_126 : b125 ≠ b101_111_126 := Nat.ne_of_lt (Nat.lt_of_lt_of_le A125.lt Fx126_1)
  have c130 := (c127.keep K126c)
  have c131 := (((((F_denied_r0.ext E94).keep K117c (ninS ne_r0_b94 nin0)).other W121 (Or.inr (slot_ne (Or.inr (hw _ (tk 79 rfl))) (Or.inr (hw _ (tk 77 rfl))) (by decide) (t := (.object "java/util/BitSet")) (t' := (.object "java/util/BitSet")) (by decide) (by decide)))).ext E125).keep K126c (ninS ne_r0_b125 nin0))
  obtain ⟨T132, h132, X132, e132, W132, st132⟩ := putF X126 hx hZ hown (host := "") (Or.inl (hw _ (tk 78 rfl))) Via.refl rfl c131 c130 (Or.inr ⟨(hw _ (tk 79 rfl)), rfl, hnm⟩) (hw _ (tk 48 rfl)) (ty := (.object "java/util/BitSet")) (by decide) rfl rfl (g := (mkF m 23 #[.val (.ref r0)] [(.ref b125), (.ref r0)])) rfl rfl (hb hby d6_23)
  have Fw132 := c131.same W132
  have O132 : Old Z n0 h132 := O126.wr W132 g_r0
  have N132 := Fr.snoc X132 N126 g_r0
  have K132 : Keep h0 h132 [r0] := K126.wr W132 (Or.inl (List.mem_of_getElem? (i := 0) rfl))
  obtain ⟨fs, hr, hrun, hended, hW, hsame⟩ := X132.leave (v := none) (fun _ => rfl)
  have c133 := ((c128.keep K126c).wr W132)
  have c134 := ((((Fe117_2.other W121 (Or.inl (Ne.symm ne_r0_b94))).ext E125).keep K126c (ninS ne_b94_b125 nin0)).other W132 (Or.inl (Ne.symm ne_r0_b94)))
  have c135 := ((((Fe117_0.other W121 (Or.inl (Ne.symm ne_r0_b94))).ext E125).keep K126c (ninS ne_b94_b125 nin0)).other W132 (Or.inl (Ne.symm ne_r0_b94)))
  have c136 := ((((Fe117_1.other W121 (Or.inl (Ne.symm ne_r0_b94))).ext E125).keep K126c (ninS ne_b94_b125 nin0)).other W132 (Or.inl (Ne.symm ne_r0_b94)))
  have c137 := ((c129.keep K126c (ninS ne_b101_111_117_b125 nin0)).other W132 (Ne.symm ne_r0_b101_111_117))
  have c138 := ((A125.keep K126c).wr W132)
  have c139 := (Fe126_2.other W132 (Or.inl (Ne.symm ne_r0_b125)))
  have c140 := (Fe126_0.other W132 (Or.inl (Ne.symm ne_r0_b125)))
  have c141 := (Fe126_1.other W132 (Or.inl (Ne.symm ne_r0_b125)))
  have c142 := (Fx126_2.other W132 (Ne.symm ne_r0_b101_111_126))
  have c143 := (((Fw121.ext E125).keep K126c (ninS ne_r0_b125 nin0)).other W132 (Or.inr (slot_ne (Or.inr (hw _ (tk 77 rfl))) (Or.inr (hw _ (tk 79 rfl))) (by decide) (t := (.object "java/util/BitSet")) (t' := (.object "java/util/BitSet")) (by decide) (by decide))))
  refine ⟨_, _, pre0 _ ?_, hrun, hended, _, _, rfl, ?_, ⟨_, rfl⟩, hW, hsame.mono (by decide) (by decide)⟩
  · show Steps p.tables e below (s₁.setTop (mkF m 0 #[.val (.ref r0)] [])) _
    refine XS.aloadN X0.here hx rfl (hb hby d6_0) rfl rfl ?_
    show Steps p.tables e below (s₁.setTop (mkF m 1 #[.val (.ref r0)] [(.ref r0)])) _
    refine st93 _ ?_
    show Steps p.tables e below (T93.setTop (mkF m 4 #[.val (.ref r0)] [])) _
    refine XS.aloadN X93.here hx rfl (hb hby d6_4) rfl rfl ?_
    show Steps p.tables e below (T93.setTop (mkF m 5 #[.val (.ref r0)] [(.ref r0)])) _
    refine st94 _ ?_
    show Steps p.tables e below (T94.setTop (mkF m 8 #[.val (.ref r0)] [(.ref b94), (.ref r0)])) _
    refine XS.dup X94.here hx rfl (hb hby d6_8) rfl rfl ?_
    show Steps p.tables e below (T94.setTop (mkF m 9 #[.val (.ref r0)] [(.ref b94), (.ref b94), (.ref r0)])) _
    refine st117.trans ?_
    show Steps p.tables e below (T117.setTop (mkF m 12 #[.val (.ref r0)] [(.ref b94), (.ref r0)])) _
    refine st121 _ ?_
    show Steps p.tables e below (T121.setTop (mkF m 15 #[.val (.ref r0)] [])) _
    refine XS.aloadN X121.here hx rfl (hb hby d6_15) rfl rfl ?_
    show Steps p.tables e below (T121.setTop (mkF m 16 #[.val (.ref r0)] [(.ref r0)])) _
    refine st125 _ ?_
    show Steps p.tables e below (T125.setTop (mkF m 19 #[.val (.ref r0)] [(.ref b125), (.ref r0)])) _
    refine XS.dup X125.here hx rfl (hb hby d6_19) rfl rfl ?_
    show Steps p.tables e below (T125.setTop (mkF m 20 #[.val (.ref r0)] [(.ref b125), (.ref b125), (.ref r0)])) _
    refine st126.trans ?_
    show Steps p.tables e below (T126.setTop (mkF m 23 #[.val (.ref r0)] [(.ref b125), (.ref r0)])) _
    refine st132 _ ?_
    show Steps p.tables e below (T132.setTop (mkF m 26 #[.val (.ref r0)] [])) _
    exact X132.returnOut hx Bd.returns (hb hby d6_26) hr
  · show Q6x1 Z r0 h0 n0 _ T132.heap _
    rw [e132]
    exact ⟨b94, b101_111_117, k101_111_117, b125, b101_111_126, k101_111_126, rfl, N132, O132, K132, Fw132, c143, g_b94, sz_b94, c133, c134, c135, c136, g_b101_111_117, sz_b101_111_117, c137, g_b125, sz_b125, c138, c139, c140, c141, g_b101_111_126, sz_b101_111_126, c142, ne_b94_b101_111_117, ne_b94_b125, ne_b94_b101_111_126, ne_b101_111_117_b125, ne_b101_111_117_b101_111_126, ne_b125_b101_111_126⟩
theorem pn_10x1 : plainName "com/example/vetd/vetd/Policy$ActionRules" = true := by first | (simp [plainName, overriddenIn]; done) | decide +kernel
theorem ef_10x1 (m : MethodId) (r0 : Addr) (p1 : Int32) : entryFrame m #[(.ref r0), (.int p1)] 2 = mkF m 0 #[.val (.ref r0), .val (.int p1)] [] := by first | (simp [entryFrame, mkF, argsToLocals, Value.category]; done) | rfl
def Q10x1 (Z : State) (r0 : Addr) (p1 : Int32) (r0_lines : Addr) (k_r0_lines : ClassId) (x_r0_lines_n : Int32) (h0 : Heap) (n0 : Nat) (v : Option Value) (h : Heap) (L : List Loc) : Prop := ∃ (b92 : Addr) (b125_144 : Addr) (b101_111_126_144 : Addr) (k101_111_126_144 : ClassId) (b94_144 : Addr) (b101_111_117_144 : Addr) (k101_111_117_144 : ClassId), v = some (.ref b92) ∧ Fr n0 L ∧ Old Z n0 h ∧ Keep h0 h [r0_lines] ∧ Arh Z h r0_lines k_r0_lines (.object "com/example/vetd/vetd/Policy$Lines") x_r0_lines_n [(p1, (.ref b92))] [] .null ∧ n0 ≤ b92 ∧ h0.size ≤ b92 ∧ Exa Z h b92 "com/example/vetd/vetd/Policy$Lines" ∧ Fld Z h b92 "com/example/vetd/vetd/Policy$Lines" "permitted" "Ljava/util/BitSet;" (.ref b94_144) ∧ Fld Z h b92 "com/example/vetd/vetd/Policy$Lines" "denied" "Ljava/util/BitSet;" (.ref b125_144) ∧ n0 ≤ b125_144 ∧ h0.size ≤ b125_144 ∧ Exa Z h b125_144 "java/util/BitSet" ∧ Fld Z h b125_144 "java/util/BitSet" "wordsInUse" "I" (.int (0 : Int32)) ∧ Fld Z h b125_144 "java/util/BitSet" "sizeIsSticky" "Z" (.int (0 : Int32)) ∧ Fld Z h b125_144 "java/util/BitSet" "words" "[J" (.ref b101_111_126_144) ∧ n0 ≤ b101_111_126_144 ∧ h0.size ≤ b101_111_126_144 ∧ Arv Z h b101_111_126_144 k101_111_126_144 .long ((((64 : Int32) - (1 : Int32)) >>> ((6 : Int32) &&& 31)) + (1 : Int32)) [(.long (0 : Int64))] (.long (0 : Int64)) ∧ n0 ≤ b94_144 ∧ h0.size ≤ b94_144 ∧ Exa Z h b94_144 "java/util/BitSet" ∧ Fld Z h b94_144 "java/util/BitSet" "wordsInUse" "I" (.int (0 : Int32)) ∧ Fld Z h b94_144 "java/util/BitSet" "sizeIsSticky" "Z" (.int (0 : Int32)) ∧ Fld Z h b94_144 "java/util/BitSet" "words" "[J" (.ref b101_111_117_144) ∧ n0 ≤ b101_111_117_144 ∧ h0.size ≤ b101_111_117_144 ∧ Arv Z h b101_111_117_144 k101_111_117_144 .long ((((64 : Int32) - (1 : Int32)) >>> ((6 : Int32) &&& 31)) + (1 : Int32)) [(.long (0 : Int64))] (.long (0 : Int64)) ∧ b92 ≠ b125_144 ∧ b92 ≠ b101_111_126_144 ∧ b92 ≠ b94_144 ∧ b92 ≠ b101_111_117_144 ∧ b125_144 ≠ b101_111_126_144 ∧ b125_144 ≠ b94_144 ∧ b125_144 ≠ b101_111_117_144 ∧ b101_111_126_144 ≠ b94_144 ∧ b101_111_126_144 ≠ b101_111_117_144 ∧ b94_144 ≠ b101_111_117_144
set_option maxRecDepth 65536 in
set_option maxHeartbeats 40000000 in
theorem rm10x1 (l : Launch) (Z : State) (a0 : Array Value) (hw : ∀ d ∈ tables_1, d.before a0 Z = true) (ws : List Jvm.Cond) (hS : StF Z) (r0 : Addr) (p1 : Int32) (r0_lines : Addr) (k_r0_lines : ClassId) (x_r0_lines_n : Int32) (h0 : Heap) (n0 : Nat) (O0 : Old Z n0 h0) (g_r0 : n0 ≤ r0) (g_r0_lines : n0 ≤ r0_lines) (E_r0 : Exa Z h0 r0 "com/example/vetd/vetd/Policy$ActionRules") (F_lines_r0 : Fld Z h0 r0 "com/example/vetd/vetd/Policy$ActionRules" "lines" "[Lcom/example/vetd/vetd/Policy$Lines;" (.ref r0_lines)) (OV_r0_lines : Ovr Z k_r0_lines "com/example/vetd/vetd/Policy$Lines") (V_r0_lines : Arh Z h0 r0_lines k_r0_lines (.object "com/example/vetd/vetd/Policy$Lines") x_r0_lines_n [] [] .null) (ne_r0_r0_lines : r0 ≠ r0_lines) (as0 : (p1 < x_r0_lines_n)) (as1 : ¬ (p1 < (0 : Int32))) :
    MetFree l Y8 (head1 (Jvm.Cond.code Y8 prog_19_method_2_code 2 (some (.object "com/example/vetd/vetd/Policy$Lines")) :: ws) ({ frames := 4, cells := 5, slots := 10, locals := 55 } : Room)) (fun a U => a = #[(.ref r0), (.int p1)] ∧ Z.Warmed39 U.vm ∧ U.heap = h0) (fun _ _ _ _ _ => True) (fun _ U o U' => ∃ v L, o = .returned v ∧ Q10x1 Z r0 p1 r0_lines k_r0_lines x_r0_lines_n h0 n0 v U'.heap L ∧ FrameEnd U o U' L ({ frames := 4, cells := 5, slots := 10, locals := 55 } : Room).cells ({ frames := 4, cells := 5, slots := 10, locals := 55 } : Room).slots) := by
  refine MetFree.of_bodySF (plainFor_of_name pn_10x1) hisR ?_
  intro p e s m args below meth c s₁ Bd hml0 hP hK
  obtain ⟨rfl, hZ, hh⟩ := hP
  have hx := Bd.exec
  have hby := Bd.bytes
  have hml : c.maxLocals = 2 := hml0
  have hown : s.vm.findClass "com/example/vetd/vetd/Policy$ActionRules" = some m.cls := findClass_of_methodNamed Bd.named
  have hnm := (name_of_methodNamed Bd.named Bd.method).1
  have X0 : Stand p l e ({ frames := 4, cells := 5, slots := 10, locals := 55 } : Room) s m #[(.ref r0), (.int p1)] below meth c s₁ [] 0 0 := Stand.of_body Bd
  have e0 : s₁.heap = h0 := by rw [← hh, Bd.state]; rfl
  have N0 := Fr.nil n0
  have hS0 := hS
  have S_1 := hS
  have pre0 : ∀ t, Steps p.tables e below (s₁.setTop (mkF m 0 #[.val (.ref r0), .val (.int p1)] [])) t → Steps p.tables e below (s₁.setTop (entryFrame m #[(.ref r0), (.int p1)] 2)) t := fun t k => castTop (ef_10x1 m r0 p1) k
  obtain ⟨T89, X89, e89, st89⟩ := getF X0 hx hZ hown (host := "") (Or.inl (hw _ (tk 45 rfl))) Via.refl e0 F_lines_r0 (g := (mkF m 1 #[.val (.ref r0), .val (.int p1)] [(.ref r0)])) rfl rfl (hb hby d10_1)
  obtain ⟨cl90, Ar90, qa90, Sa90, Ma90, Ha90, Ga90⟩ := id V_r0_lines
  have hin90 : ¬ (p1 < 0 ∨ cl90.slots.size ≤ (p1).toNatClampNeg) := by exact inb_of Sa90 ⟨as1, as0⟩
  have hat90 : cl90.slots[(p1).toNatClampNeg]? = some .null := atH Ha90 hin90 rfl
  obtain ⟨T91, X91, e91, st91⟩ := getF X89 hx hZ hown (host := "") (Or.inl (hw _ (tk 45 rfl))) Via.refl e89 F_lines_r0 (g := (mkF m 10 #[.val (.ref r0), .val (.int p1)] [(.ref r0)])) rfl rfl (hb hby d10_10)
  obtain ⟨T92, h92, X92, e92, E92, A92, D92, -, st92⟩ := newO X91 hx hZ hown (hw _ (tk 43 rfl)) (hw _ (tk 48 rfl)) (hw _ (tk 49 rfl)) e91 (g := (mkF m 14 #[.val (.ref r0), .val (.int p1)] [(.int p1), (.ref r0_lines)])) rfl (hb hby d10_14) (by decide) (by decide)
  obtain ⟨b92, g92⟩ : ∃ z, z = h0.size := ⟨_, rfl⟩
  rw [← g92] at A92 D92 st92
  have g_b92 : n0 ≤ b92 := Nat.le_trans (own_old O0) (Nat.le_of_eq g92.symm)
  have sz_b92 : h0.size ≤ b92 := Nat.le_trans (Keep.refl h0 [r0_lines]).1 (Nat.le_of_eq g92.symm)
  have ne_r0_b92 : r0 ≠ b92 := Nat.ne_of_lt (Nat.lt_of_lt_of_le E_r0.lt (Nat.le_of_eq g92.symm))
  have ne_r0_lines_b92 : r0_lines ≠ b92 := Nat.ne_of_lt (Nat.lt_of_lt_of_le V_r0_lines.lt (Nat.le_of_eq g92.symm))
  have O92 : Old Z n0 h92 := O0.ext E92
  have K92 : Keep h0 h92 [r0_lines] := (Keep.refl h0 [r0_lines]).ext E92
  have F_permitted_b92 : Fld Z h92 b92 "com/example/vetd/vetd/Policy$Lines" "permitted" "Ljava/util/BitSet;" .null := D92 (Or.inr (hw _ (tk 77 rfl))) (ty := (.object "java/util/BitSet")) (by decide)
  have F_denied_b92 : Fld Z h92 b92 "com/example/vetd/vetd/Policy$Lines" "denied" "Ljava/util/BitSet;" .null := D92 (Or.inr (hw _ (tk 79 rfl))) (ty := (.object "java/util/BitSet")) (by decide)
  have c145 := (E_r0.ext E92)
  have c146 := (V_r0_lines.ext E92)
  obtain ⟨_, _, ⟨T144, L144, k144, n144⟩, -, X144, ⟨Lc144, hQ144, l144, y144, z144⟩, st144⟩ := X92.specialBack hx (y := Y7) rfl hown (mvT hZ (hw _ (tk 104 rfl))) (mvT hZ (hw _ (tk 51 rfl))) (mvT hZ (hw _ (tk 52 rfl))) (by decide) (backOf (W := 3) (rm6x1 l Z a0 hw [] hS0 b92 h92 n0 O92 g_b92 A92 F_denied_b92 F_permitted_b92) hZ (hw _ (tk 52 rfl)) (hw _ (tk 49 rfl)) (by decide) (by decide)) (g := (mkF m 18 #[.val (.ref r0), .val (.int p1)] [(.ref b92), (.ref b92), (.int p1), (.ref r0_lines)])) rfl (by rw [hml]; rfl) (Steps.refl _) (a := b92) (argsL := []) (rest := [(.ref b92), (.int p1), (.ref r0_lines)]) (lenOf pd_0 rfl) rfl (by show 2 * 0 + _ ≤ _; exact Nat.le_of_eq rfl) (hb hby d10_18) (fun _ _ => ⟨rfl, e92, (by decide : 1 + 4 ≤ _), (by decide : 2 + 8 ≤ _)⟩)
  dsimp only [Pt.U, Pt.locs, Pt.cells, Pt.slots] at X144 l144 y144 z144 st144 hQ144
  subst l144 y144 z144
  obtain ⟨b94_144, b101_111_117_144, k101_111_117_144, b125_144, b101_111_126_144, k101_111_126_144, rv144, N144q, O144, K144c, Fe144_0, Fe144_1, Fx144_0, Fx144_1, Fx144_2, Fx144_3, Fx144_4, Fx144_5, Fx144_6, Fx144_7, Fx144_8, Fx144_9, Fx144_10, Fx144_11, Fx144_12, Fx144_13, Fx144_14, Fx144_15, Fx144_16, Fx144_17, Fx144_18, Fx144_19, Fx144_20, Fx144_21, Fx144_22, Fx144_23⟩ := hQ144
  subst rv144
  have N144 := Fr.app N0 N144q
  have K144 : Keep h0 T144.heap [r0_lines] := K92.trans K144c (allS (Or.inr sz_b92) all0)
  have g_b94_144 := Fx144_0
  have sz_b94_144 : h0.size ≤ b94_144 := Nat.le_trans K92.1 Fx144_1
  have ne_r0_b94_144 : r0 ≠ b94_144 := Nat.ne_of_lt (Nat.lt_of_lt_of_le c145.lt Fx144_1)
  have ne_r0_lines_b94_144 : r0_lines ≠ b94_144 := Nat.ne_of_lt (Nat.lt_of_lt_of_le c146.lt Fx144_1)
  have ne_b92_b94_144 : b92 ≠ b94_144 := Nat.ne_of_lt (Nat.lt_of_lt_of_le A92.lt Fx144_1)
  have g_b101_111_117_144 := Fx144_6
  have sz_b101_111_117_144 : h0.size ≤ b101_111_117_144 := Nat.le_trans K92.1 Fx144_7
  have ne_r0_b101_111_117_144 : r0 ≠ b101_111_117_144 := Nat.ne_of_lt (Nat.lt_of_lt_of_le c145.lt Fx144_7)
  have ne_r0_lines_b101_111_117_144 : r0_lines ≠ b101_111_117_144 := Nat.ne_of_lt (Nat.lt_of_lt_of_le c146.lt Fx144_7)
  have ne_b92_b101_111_117_144 : b92 ≠ b101_111_117_144 := Nat.ne_of_lt (Nat.lt_of_lt_of_le A92.lt Fx144_7)
  have g_b125_144 := Fx144_9
  have sz_b125_144 : h0.size ≤ b125_144 := Nat.le_trans K92.1 Fx144_10
  have ne_r0_b125_144 : r0 ≠ b125_144 := Nat.ne_of_lt (Nat.lt_of_lt_of_le c145.lt Fx144_10)
  have ne_r0_lines_b125_144 : r0_lines ≠ b125_144 := Nat.ne_of_lt (Nat.lt_of_lt_of_le c146.lt Fx144_10)
  have ne_b92_b125_144 : b92 ≠ b125_144 := Nat.ne_of_lt (Nat.lt_of_lt_of_le A92.lt Fx144_10)
  have g_b101_111_126_144 := Fx144_15
  have sz_b101_111_126_144 : h0.size ≤ b101_111_126_144 := Nat.le_trans K92.1 Fx144_16
  have ne_r0_b101_111_126_144 : r0 ≠ b101_111_126_144 := Nat.ne_of_lt (Nat.lt_of_lt_of_le c145.lt Fx144_16)
  have ne_r0_lines_b101_111_126_144 : r0_lines ≠ b101_111_126_144 := Nat.ne_of_lt (Nat.lt_of_lt_of_le c146.lt Fx144_16)
  have ne_b92_b101_111_126_144 : b92 ≠ b101_111_126_144 := Nat.ne_of_lt (Nat.lt_of_lt_of_le A92.lt Fx144_16)
  have c147 := (c146.keep K144c (ninS ne_r0_lines_b92 nin0))
  obtain ⟨cl148, Ar148, qa148, Sa148, Ma148, Ha148, Ga148⟩ := id c147
  have hin148 : ¬ (p1 < 0 ∨ cl148.slots.size ≤ (p1).toNatClampNeg) := by exact inb_of Sa148 ⟨as1, as0⟩
  have c149 := (A92.keep K144c)
  obtain ⟨T150, h150, X150, e150, W150, st150⟩ := stR X144 hx hZ rfl Ar148 (j := p1) hin148 rfl (Sto.ofV Ar148 qa148 OV_r0_lines (Ins.self c149)) (g := (mkF m 21 #[.val (.ref r0), .val (.int p1)] [(.ref b92), (.int p1), (.ref r0_lines)])) rfl rfl (hb hby d10_21)
  have V_r0_lines_150 : Arh Z h150 r0_lines k_r0_lines (.object "com/example/vetd/vetd/Policy$Lines") x_r0_lines_n [(p1, (.ref b92))] [] .null := Arh.push Ar148 qa148 Sa148 Ma148 Ha148 Ga148 rfl W150 hin148
  have O150 : Old Z n0 h150 := O144.wr W150 g_r0_lines
  have N150 := Fr.snoc X150 N144 g_r0_lines
  have K150 : Keep h0 h150 [r0_lines] := K144.wr W150 (Or.inl (List.mem_of_getElem? (i := 0) rfl))
  have c151 := (((F_lines_r0.ext E92).keep K144c (ninS ne_r0_b92 nin0)).other W150 (Or.inl ne_r0_r0_lines))
  obtain ⟨T152, X152, e152, st152⟩ := getF X150 hx hZ hown (host := "") (Or.inl (hw _ (tk 45 rfl))) Via.refl e150 c151 (g := (mkF m 23 #[.val (.ref r0), .val (.int p1)] [(.ref r0)])) rfl rfl (hb hby d10_23)
  obtain ⟨cl153, Ar153, qa153, Sa153, Ma153, Ha153, Ga153⟩ := id V_r0_lines_150
  have hin153 : ¬ (p1 < 0 ∨ cl153.slots.size ≤ (p1).toNatClampNeg) := by exact inb_of Sa153 ⟨as1, as0⟩
  have hat153 : cl153.slots[(p1).toNatClampNeg]? = some (.ref b92) := atH Ha153 hin153 (getH_hit as1 rfl)
  obtain ⟨fs, hr, hrun, hended, hW, hsame⟩ := X152.leave (v := some (.ref b92)) (fun h => by rw [Bd.returns] at h; cases h)
  have c154 := (c149.wr W150)
  have c155 := (Fe144_1.other W150 (Or.inl (Ne.symm ne_r0_lines_b92)))
  have c156 := (Fe144_0.other W150 (Or.inl (Ne.symm ne_r0_lines_b92)))
  have c157 := (Fx144_11.wr W150)
  have c158 := (Fx144_12.other W150 (Or.inl (Ne.symm ne_r0_lines_b125_144)))
  have c159 := (Fx144_13.other W150 (Or.inl (Ne.symm ne_r0_lines_b125_144)))
  have c160 := (Fx144_14.other W150 (Or.inl (Ne.symm ne_r0_lines_b125_144)))
  have c161 := (Fx144_17.other W150 (Ne.symm ne_r0_lines_b101_111_126_144))
  have c162 := (Fx144_2.wr W150)
  have c163 := (Fx144_3.other W150 (Or.inl (Ne.symm ne_r0_lines_b94_144)))
  have c164 := (Fx144_4.other W150 (Or.inl (Ne.symm ne_r0_lines_b94_144)))
  have c165 := (Fx144_5.other W150 (Or.inl (Ne.symm ne_r0_lines_b94_144)))
  have c166 := (Fx144_8.other W150 (Ne.symm ne_r0_lines_b101_111_117_144))
  refine ⟨_, _, pre0 _ ?_, hrun, hended, _, _, rfl, ?_, ⟨_, rfl⟩, hW, hsame.mono (by decide) (by decide)⟩
  · show Steps p.tables e below (s₁.setTop (mkF m 0 #[.val (.ref r0), .val (.int p1)] [])) _
    refine XS.aloadN X0.here hx rfl (hb hby d10_0) rfl rfl ?_
    show Steps p.tables e below (s₁.setTop (mkF m 1 #[.val (.ref r0), .val (.int p1)] [(.ref r0)])) _
    refine st89 _ ?_
    show Steps p.tables e below (T89.setTop (mkF m 4 #[.val (.ref r0), .val (.int p1)] [(.ref r0_lines)])) _
    refine XS.iloadN X89.here hx rfl (hb hby d10_4) rfl ?_
    show Steps p.tables e below (T89.setTop (mkF m 5 #[.val (.ref r0), .val (.int p1)] [(.int p1), (.ref r0_lines)])) _
    refine X89.aaload hx (j := p1) (v := .null) (by rw [e89]; exact Ar90.1) (State.isArrayOf_alike hZ.alike Ar90.2.1) rfl Ar90.2.2 hin90 hat90 (g := (mkF m 5 #[.val (.ref r0), .val (.int p1)] [(.int p1), (.ref r0_lines)])) rfl rfl (hb hby d10_5) _ ?_
    show Steps p.tables e below (T89.setTop (mkF m 6 #[.val (.ref r0), .val (.int p1)] [.null])) _
    refine XS.ifnonnullNo X89.here hx rfl (hb hby d10_6) rfl ?_
    show Steps p.tables e below (T89.setTop (mkF m 9 #[.val (.ref r0), .val (.int p1)] [])) _
    refine XS.aloadN X89.here hx rfl (hb hby d10_9) rfl rfl ?_
    show Steps p.tables e below (T89.setTop (mkF m 10 #[.val (.ref r0), .val (.int p1)] [(.ref r0)])) _
    refine st91 _ ?_
    show Steps p.tables e below (T91.setTop (mkF m 13 #[.val (.ref r0), .val (.int p1)] [(.ref r0_lines)])) _
    refine XS.iloadN X91.here hx rfl (hb hby d10_13) rfl ?_
    show Steps p.tables e below (T91.setTop (mkF m 14 #[.val (.ref r0), .val (.int p1)] [(.int p1), (.ref r0_lines)])) _
    refine st92 _ ?_
    show Steps p.tables e below (T92.setTop (mkF m 17 #[.val (.ref r0), .val (.int p1)] [(.ref b92), (.int p1), (.ref r0_lines)])) _
    refine XS.dup X92.here hx rfl (hb hby d10_17) rfl rfl ?_
    show Steps p.tables e below (T92.setTop (mkF m 18 #[.val (.ref r0), .val (.int p1)] [(.ref b92), (.ref b92), (.int p1), (.ref r0_lines)])) _
    refine st144.trans ?_
    show Steps p.tables e below (T144.setTop (mkF m 21 #[.val (.ref r0), .val (.int p1)] [(.ref b92), (.int p1), (.ref r0_lines)])) _
    refine st150 _ ?_
    show Steps p.tables e below (T150.setTop (mkF m 22 #[.val (.ref r0), .val (.int p1)] [])) _
    refine XS.aloadN X150.here hx rfl (hb hby d10_22) rfl rfl ?_
    show Steps p.tables e below (T150.setTop (mkF m 23 #[.val (.ref r0), .val (.int p1)] [(.ref r0)])) _
    refine st152 _ ?_
    show Steps p.tables e below (T152.setTop (mkF m 26 #[.val (.ref r0), .val (.int p1)] [(.ref r0_lines)])) _
    refine XS.iloadN X152.here hx rfl (hb hby d10_26) rfl ?_
    show Steps p.tables e below (T152.setTop (mkF m 27 #[.val (.ref r0), .val (.int p1)] [(.int p1), (.ref r0_lines)])) _
    refine X152.aaload hx (j := p1) (v := (.ref b92)) (by rw [e152]; exact Ar153.1) (State.isArrayOf_alike hZ.alike Ar153.2.1) rfl Ar153.2.2 hin153 hat153 (g := (mkF m 27 #[.val (.ref r0), .val (.int p1)] [(.int p1), (.ref r0_lines)])) rfl rfl (hb hby d10_27) _ ?_
    show Steps p.tables e below (T152.setTop (mkF m 28 #[.val (.ref r0), .val (.int p1)] [(.ref b92)])) _
    jvm_step X152.here [X152.here.top, hx, (hb hby d10_28), X152.method', Bd.returns, Value.isRef, FieldType.isReference]
    first | (intro acts; rw [hr _ acts rfl rfl rfl]) | rw [hr _ _ rfl rfl rfl]
    exact Steps.refl _
  · show Q10x1 Z r0 p1 r0_lines k_r0_lines x_r0_lines_n h0 n0 _ T152.heap _
    rw [e152]
    exact ⟨b92, b125_144, b101_111_126_144, k101_111_126_144, b94_144, b101_111_117_144, k101_111_117_144, rfl, N150, O150, K150, V_r0_lines_150, g_b92, sz_b92, c154, c155, c156, g_b125_144, sz_b125_144, c157, c158, c159, c160, g_b101_111_126_144, sz_b101_111_126_144, c161, g_b94_144, sz_b94_144, c162, c163, c164, c165, g_b101_111_117_144, sz_b101_111_117_144, c166, ne_b92_b125_144, ne_b92_b101_111_126_144, ne_b92_b94_144, ne_b92_b101_111_117_144, Fx144_23, (Ne.symm Fx144_19), (Ne.symm Fx144_21), (Ne.symm Fx144_20), (Ne.symm Fx144_22), Fx144_18⟩
theorem pn_10x2 : plainName "com/example/vetd/vetd/Policy$ActionRules" = true := by first | (simp [plainName, overriddenIn]; done) | decide +kernel
theorem ef_10x2 (m : MethodId) (r0 : Addr) (p1 : Int32) : entryFrame m #[(.ref r0), (.int p1)] 2 = mkF m 0 #[.val (.ref r0), .val (.int p1)] [] := by first | (simp [entryFrame, mkF, argsToLocals, Value.category]; done) | rfl
def Q10x2 (Z : State) (r0 : Addr) (p1 : Int32) (r0_lines : Addr) (r0_lines_h0 : Addr) (r0_lines_h0_denied : Addr) (r0_lines_h0_denied_words : Addr) (r0_lines_h0_permitted : Addr) (r0_lines_h0_permitted_words : Addr) (k_r0_lines : ClassId) (x_r0_lines_n : Int32) (x_r0_lines_i0 : Int32) (k_r0_lines_h0_denied_words : ClassId) (k_r0_lines_h0_permitted_words : ClassId) (h0 : Heap) (n0 : Nat) (v : Option Value) (h : Heap) (L : List Loc) : Prop := v = some (.ref r0_lines_h0) ∧ Fr n0 L ∧ Old Z n0 h ∧ Keep h0 h []
set_option maxRecDepth 65536 in
set_option maxHeartbeats 40000000 in
theorem rm10x2 (l : Launch) (Z : State) (a0 : Array Value) (hw : ∀ d ∈ tables_1, d.before a0 Z = true) (ws : List Jvm.Cond) (hS : StF Z) (r0 : Addr) (p1 : Int32) (r0_lines : Addr) (r0_lines_h0 : Addr) (r0_lines_h0_denied : Addr) (r0_lines_h0_denied_words : Addr) (r0_lines_h0_permitted : Addr) (r0_lines_h0_permitted_words : Addr) (k_r0_lines : ClassId) (x_r0_lines_n : Int32) (x_r0_lines_i0 : Int32) (k_r0_lines_h0_denied_words : ClassId) (k_r0_lines_h0_permitted_words : ClassId) (h0 : Heap) (n0 : Nat) (O0 : Old Z n0 h0) (g_r0 : n0 ≤ r0) (g_r0_lines : n0 ≤ r0_lines) (g_r0_lines_h0 : n0 ≤ r0_lines_h0) (g_r0_lines_h0_denied : n0 ≤ r0_lines_h0_denied) (g_r0_lines_h0_denied_words : n0 ≤ r0_lines_h0_denied_words) (g_r0_lines_h0_permitted : n0 ≤ r0_lines_h0_permitted) (g_r0_lines_h0_permitted_words : n0 ≤ r0_lines_h0_permitted_words) (E_r0 : Exa Z h0 r0 "com/example/vetd/vetd/Policy$ActionRules") (F_lines_r0 : Fld Z h0 r0 "com/example/vetd/vetd/Policy$ActionRules" "lines" "[Lcom/example/vetd/vetd/Policy$Lines;" (.ref r0_lines)) (OV_r0_lines : Ovr Z k_r0_lines "com/example/vetd/vetd/Policy$Lines") (V_r0_lines : Arh Z h0 r0_lines k_r0_lines (.object "com/example/vetd/vetd/Policy$Lines") x_r0_lines_n [(x_r0_lines_i0, (.ref r0_lines_h0))] [] .null) (E_r0_lines_h0 : Exa Z h0 r0_lines_h0 "com/example/vetd/vetd/Policy$Lines") (F_denied_r0_lines_h0 : Fld Z h0 r0_lines_h0 "com/example/vetd/vetd/Policy$Lines" "denied" "Ljava/util/BitSet;" (.ref r0_lines_h0_denied)) (F_permitted_r0_lines_h0 : Fld Z h0 r0_lines_h0 "com/example/vetd/vetd/Policy$Lines" "permitted" "Ljava/util/BitSet;" (.ref r0_lines_h0_permitted)) (E_r0_lines_h0_denied : Exa Z h0 r0_lines_h0_denied "java/util/BitSet") (F_sizeIsSticky_r0_lines_h0_denied : Fld Z h0 r0_lines_h0_denied "java/util/BitSet" "sizeIsSticky" "Z" (.int (0 : Int32))) (F_words_r0_lines_h0_denied : Fld Z h0 r0_lines_h0_denied "java/util/BitSet" "words" "[J" (.ref r0_lines_h0_denied_words)) (F_wordsInUse_r0_lines_h0_denied : Fld Z h0 r0_lines_h0_denied "java/util/BitSet" "wordsInUse" "I" (.int (0 : Int32))) (V_r0_lines_h0_denied_words : Arv Z h0 r0_lines_h0_denied_words k_r0_lines_h0_denied_words .long ((((64 : Int32) - (1 : Int32)) >>> ((6 : Int32) &&& 31)) + (1 : Int32)) [(.long (0 : Int64))] (.long (0 : Int64))) (E_r0_lines_h0_permitted : Exa Z h0 r0_lines_h0_permitted "java/util/BitSet") (F_sizeIsSticky_r0_lines_h0_permitted : Fld Z h0 r0_lines_h0_permitted "java/util/BitSet" "sizeIsSticky" "Z" (.int (0 : Int32))) (F_words_r0_lines_h0_permitted : Fld Z h0 r0_lines_h0_permitted "java/util/BitSet" "words" "[J" (.ref r0_lines_h0_permitted_words)) (F_wordsInUse_r0_lines_h0_permitted : Fld Z h0 r0_lines_h0_permitted "java/util/BitSet" "wordsInUse" "I" (.int (0 : Int32))) (V_r0_lines_h0_permitted_words : Arv Z h0 r0_lines_h0_permitted_words k_r0_lines_h0_permitted_words .long ((((64 : Int32) - (1 : Int32)) >>> ((6 : Int32) &&& 31)) + (1 : Int32)) [(.long (0 : Int64))] (.long (0 : Int64))) (ne_r0_r0_lines : r0 ≠ r0_lines) (ne_r0_r0_lines_h0 : r0 ≠ r0_lines_h0) (ne_r0_r0_lines_h0_denied : r0 ≠ r0_lines_h0_denied) (ne_r0_r0_lines_h0_denied_words : r0 ≠ r0_lines_h0_denied_words) (ne_r0_r0_lines_h0_permitted : r0 ≠ r0_lines_h0_permitted) (ne_r0_r0_lines_h0_permitted_words : r0 ≠ r0_lines_h0_permitted_words) (ne_r0_lines_r0_lines_h0 : r0_lines ≠ r0_lines_h0) (ne_r0_lines_r0_lines_h0_denied : r0_lines ≠ r0_lines_h0_denied) (ne_r0_lines_r0_lines_h0_denied_words : r0_lines ≠ r0_lines_h0_denied_words) (ne_r0_lines_r0_lines_h0_permitted : r0_lines ≠ r0_lines_h0_permitted) (ne_r0_lines_r0_lines_h0_permitted_words : r0_lines ≠ r0_lines_h0_permitted_words) (ne_r0_lines_h0_r0_lines_h0_denied : r0_lines_h0 ≠ r0_lines_h0_denied) (ne_r0_lines_h0_r0_lines_h0_denied_words : r0_lines_h0 ≠ r0_lines_h0_denied_words) (ne_r0_lines_h0_r0_lines_h0_permitted : r0_lines_h0 ≠ r0_lines_h0_permitted) (ne_r0_lines_h0_r0_lines_h0_permitted_words : r0_lines_h0 ≠ r0_lines_h0_permitted_words) (ne_r0_lines_h0_denied_r0_lines_h0_denied_words : r0_lines_h0_denied ≠ r0_lines_h0_denied_words) (ne_r0_lines_h0_denied_r0_lines_h0_permitted : r0_lines_h0_denied ≠ r0_lines_h0_permitted) (ne_r0_lines_h0_denied_r0_lines_h0_permitted_words : r0_lines_h0_denied ≠ r0_lines_h0_permitted_words) (ne_r0_lines_h0_denied_words_r0_lines_h0_permitted : r0_lines_h0_denied_words ≠ r0_lines_h0_permitted) (ne_r0_lines_h0_denied_words_r0_lines_h0_permitted_words : r0_lines_h0_denied_words ≠ r0_lines_h0_permitted_words) (ne_r0_lines_h0_permitted_r0_lines_h0_permitted_words : r0_lines_h0_permitted ≠ r0_lines_h0_permitted_words) (as0 : (p1 = x_r0_lines_i0)) (as1 : (p1 < x_r0_lines_n)) (as2 : ¬ (p1 < (0 : Int32))) :
    MetFree l Y8 (head1 (Jvm.Cond.code Y8 prog_19_method_2_code 2 (some (.object "com/example/vetd/vetd/Policy$Lines")) :: ws) ({ frames := 0, cells := 0, slots := 0, locals := 0 } : Room)) (fun a U => a = #[(.ref r0), (.int p1)] ∧ Z.Warmed39 U.vm ∧ U.heap = h0) (fun _ _ _ _ _ => True) (fun _ U o U' => ∃ v L, o = .returned v ∧ Q10x2 Z r0 p1 r0_lines r0_lines_h0 r0_lines_h0_denied r0_lines_h0_denied_words r0_lines_h0_permitted r0_lines_h0_permitted_words k_r0_lines x_r0_lines_n x_r0_lines_i0 k_r0_lines_h0_denied_words k_r0_lines_h0_permitted_words h0 n0 v U'.heap L ∧ FrameEnd U o U' L ({ frames := 0, cells := 0, slots := 0, locals := 0 } : Room).cells ({ frames := 0, cells := 0, slots := 0, locals := 0 } : Room).slots) := by
  refine MetFree.of_bodySF (plainFor_of_name pn_10x2) hisR ?_
  intro p e s m args below meth c s₁ Bd hml0 hP hK
  obtain ⟨rfl, hZ, hh⟩ := hP
  have hx := Bd.exec
  have hby := Bd.bytes
  have hml : c.maxLocals = 2 := hml0
  have hown : s.vm.findClass "com/example/vetd/vetd/Policy$ActionRules" = some m.cls := findClass_of_methodNamed Bd.named
  have hnm := (name_of_methodNamed Bd.named Bd.method).1
  have X0 : Stand p l e ({ frames := 0, cells := 0, slots := 0, locals := 0 } : Room) s m #[(.ref r0), (.int p1)] below meth c s₁ [] 0 0 := Stand.of_body Bd
  have e0 : s₁.heap = h0 := by rw [← hh, Bd.state]; rfl
  have N0 := Fr.nil n0
  have hS0 := hS
  have S_1 := hS
  have pre0 : ∀ t, Steps p.tables e below (s₁.setTop (mkF m 0 #[.val (.ref r0), .val (.int p1)] [])) t → Steps p.tables e below (s₁.setTop (entryFrame m #[(.ref r0), (.int p1)] 2)) t := fun t k => castTop (ef_10x2 m r0 p1) k
  obtain ⟨T179, X179, e179, st179⟩ := getF X0 hx hZ hown (host := "") (Or.inl (hw _ (tk 45 rfl))) Via.refl e0 F_lines_r0 (g := (mkF m 1 #[.val (.ref r0), .val (.int p1)] [(.ref r0)])) rfl rfl (hb hby d10_1)
  obtain ⟨cl180, Ar180, qa180, Sa180, Ma180, Ha180, Ga180⟩ := id V_r0_lines
  have hin180 : ¬ (p1 < 0 ∨ cl180.slots.size ≤ (p1).toNatClampNeg) := by exact inb_of Sa180 ⟨as2, as1⟩
  have hat180 : cl180.slots[(p1).toNatClampNeg]? = some (.ref r0_lines_h0) := atH Ha180 hin180 (getH_hit as2 as0)
  obtain ⟨T181, X181, e181, st181⟩ := getF X179 hx hZ hown (host := "") (Or.inl (hw _ (tk 45 rfl))) Via.refl e179 F_lines_r0 (g := (mkF m 23 #[.val (.ref r0), .val (.int p1)] [(.ref r0)])) rfl rfl (hb hby d10_23)
  obtain ⟨cl182, Ar182, qa182, Sa182, Ma182, Ha182, Ga182⟩ := id V_r0_lines
  have hin182 : ¬ (p1 < 0 ∨ cl182.slots.size ≤ (p1).toNatClampNeg) := by exact inb_of Sa182 ⟨as2, as1⟩
  have hat182 : cl182.slots[(p1).toNatClampNeg]? = some (.ref r0_lines_h0) := atH Ha182 hin182 (getH_hit as2 as0)
  obtain ⟨fs, hr, hrun, hended, hW, hsame⟩ := X181.leave (v := some (.ref r0_lines_h0)) (fun h => by rw [Bd.returns] at h; cases h)
  refine ⟨_, _, pre0 _ ?_, hrun, hended, _, _, rfl, ?_, ⟨_, rfl⟩, hW, hsame.mono (by decide) (by decide)⟩
  · show Steps p.tables e below (s₁.setTop (mkF m 0 #[.val (.ref r0), .val (.int p1)] [])) _
    refine XS.aloadN X0.here hx rfl (hb hby d10_0) rfl rfl ?_
    show Steps p.tables e below (s₁.setTop (mkF m 1 #[.val (.ref r0), .val (.int p1)] [(.ref r0)])) _
    refine st179 _ ?_
    show Steps p.tables e below (T179.setTop (mkF m 4 #[.val (.ref r0), .val (.int p1)] [(.ref r0_lines)])) _
    refine XS.iloadN X179.here hx rfl (hb hby d10_4) rfl ?_
    show Steps p.tables e below (T179.setTop (mkF m 5 #[.val (.ref r0), .val (.int p1)] [(.int p1), (.ref r0_lines)])) _
    refine X179.aaload hx (j := p1) (v := (.ref r0_lines_h0)) (by rw [e179]; exact Ar180.1) (State.isArrayOf_alike hZ.alike Ar180.2.1) rfl Ar180.2.2 hin180 hat180 (g := (mkF m 5 #[.val (.ref r0), .val (.int p1)] [(.int p1), (.ref r0_lines)])) rfl rfl (hb hby d10_5) _ ?_
    show Steps p.tables e below (T179.setTop (mkF m 6 #[.val (.ref r0), .val (.int p1)] [(.ref r0_lines_h0)])) _
    refine XS.ifnonnullYes X179.here hx rfl (pc0 := 6) (pc' := 22) rfl (hb hby d10_6) rfl (by decide) (by decide) ?_
    show Steps p.tables e below (T179.setTop (mkF m 22 #[.val (.ref r0), .val (.int p1)] [])) _
    refine XS.aloadN X179.here hx rfl (hb hby d10_22) rfl rfl ?_
    show Steps p.tables e below (T179.setTop (mkF m 23 #[.val (.ref r0), .val (.int p1)] [(.ref r0)])) _
    refine st181 _ ?_
    show Steps p.tables e below (T181.setTop (mkF m 26 #[.val (.ref r0), .val (.int p1)] [(.ref r0_lines)])) _
    refine XS.iloadN X181.here hx rfl (hb hby d10_26) rfl ?_
    show Steps p.tables e below (T181.setTop (mkF m 27 #[.val (.ref r0), .val (.int p1)] [(.int p1), (.ref r0_lines)])) _
    refine X181.aaload hx (j := p1) (v := (.ref r0_lines_h0)) (by rw [e181]; exact Ar182.1) (State.isArrayOf_alike hZ.alike Ar182.2.1) rfl Ar182.2.2 hin182 hat182 (g := (mkF m 27 #[.val (.ref r0), .val (.int p1)] [(.int p1), (.ref r0_lines)])) rfl rfl (hb hby d10_27) _ ?_
    show Steps p.tables e below (T181.setTop (mkF m 28 #[.val (.ref r0), .val (.int p1)] [(.ref r0_lines_h0)])) _
    jvm_step X181.here [X181.here.top, hx, (hb hby d10_28), X181.method', Bd.returns, Value.isRef, FieldType.isReference]
    first | (intro acts; rw [hr _ acts rfl rfl rfl]) | rw [hr _ _ rfl rfl rfl]
    exact Steps.refl _
  · show Q10x2 Z r0 p1 r0_lines r0_lines_h0 r0_lines_h0_denied r0_lines_h0_denied_words r0_lines_h0_permitted r0_lines_h0_permitted_words k_r0_lines x_r0_lines_n x_r0_lines_i0 k_r0_lines_h0_denied_words k_r0_lines_h0_permitted_words h0 n0 _ T181.heap _
    rw [e181]
    exact ⟨rfl, N0, O0, (Keep.refl h0 [])⟩
theorem pn_13x1 : plainName "java/util/BitSet" = true := by first | (simp [plainName, overriddenIn]; done) | decide +kernel
theorem ef_13x1 (m : MethodId) (r0 : Addr) : entryFrame m #[(.ref r0)] 1 = mkF m 0 #[.val (.ref r0)] [] := by first | (simp [entryFrame, mkF, argsToLocals, Value.category]; done) | rfl
def Q13x1 (Z : State) (r0 : Addr) (r0_words : Addr) (k_r0_words : ClassId) (h0 : Heap) (n0 : Nat) (v : Option Value) (h : Heap) (L : List Loc) : Prop := v = none ∧ Fr n0 L ∧ h = h0
set_option maxRecDepth 65536 in
set_option maxHeartbeats 40000000 in
theorem rm13x1 (l : Launch) (Z : State) (a0 : Array Value) (hw : ∀ d ∈ tables_1, d.before a0 Z = true) (ws : List Jvm.Cond) (hS : StF Z) (r0 : Addr) (r0_words : Addr) (k_r0_words : ClassId) (h0 : Heap) (n0 : Nat) (O0 : Old Z n0 h0) (g_r0 : n0 ≤ r0) (g_r0_words : n0 ≤ r0_words) (E_r0 : Exa Z h0 r0 "java/util/BitSet") (F_words_r0 : Fld Z h0 r0 "java/util/BitSet" "words" "[J" (.ref r0_words)) (F_wordsInUse_r0 : Fld Z h0 r0 "java/util/BitSet" "wordsInUse" "I" (.int (0 : Int32))) (V_r0_words : Arv Z h0 r0_words k_r0_words .long ((((64 : Int32) - (1 : Int32)) >>> ((6 : Int32) &&& 31)) + (1 : Int32)) [(.long (0 : Int64))] (.long (0 : Int64))) (ne_r0_r0_words : r0 ≠ r0_words) :
    MetFree l Y9 (head1 (Jvm.Cond.code Y9 jdk_92_method_2_code 1 none :: ws) ({ frames := 0, cells := 0, slots := 0, locals := 0 } : Room)) (fun a U => a = #[(.ref r0)] ∧ Z.Warmed39 U.vm ∧ U.heap = h0) (fun _ _ _ _ _ => True) (fun _ U o U' => ∃ v L, o = .returned v ∧ Q13x1 Z r0 r0_words k_r0_words h0 n0 v U'.heap L ∧ FrameEnd U o U' L ({ frames := 0, cells := 0, slots := 0, locals := 0 } : Room).cells ({ frames := 0, cells := 0, slots := 0, locals := 0 } : Room).slots) := by
  refine MetFree.of_bodySF (plainFor_of_name pn_13x1) hisR ?_
  intro p e s m args below meth c s₁ Bd hml0 hP hK
  obtain ⟨rfl, hZ, hh⟩ := hP
  have hx := Bd.exec
  have hby := Bd.bytes
  have hml : c.maxLocals = 1 := hml0
  have hown : s.vm.findClass "java/util/BitSet" = some m.cls := findClass_of_methodNamed Bd.named
  have hnm := (name_of_methodNamed Bd.named Bd.method).1
  have X0 : Stand p l e ({ frames := 0, cells := 0, slots := 0, locals := 0 } : Room) s m #[(.ref r0)] below meth c s₁ [] 0 0 := Stand.of_body Bd
  have e0 : s₁.heap = h0 := by rw [← hh, Bd.state]; rfl
  have N0 := Fr.nil n0
  have hS0 := hS
  have S_1 := hS
  have pre0 : ∀ t, Steps p.tables e below (s₁.setTop (mkF m 0 #[.val (.ref r0)] [])) t → Steps p.tables e below (s₁.setTop (entryFrame m #[(.ref r0)] 1)) t := fun t k => castTop (ef_13x1 m r0) k
  obtain ⟨T210, X210, e210, st210⟩ := getS2 X0 hx hZ hown (host := "") (Or.inl (hw _ (tk 103 rfl))) Via.refl e0 (S_1.ext O0.2) (g := (mkF m 0 #[.val (.ref r0)] [])) rfl (hb hby d13_0)
  obtain ⟨T211, X211, e211, st211⟩ := getS2 X210 hx hZ hown (host := "") (Or.inl (hw _ (tk 103 rfl))) Via.refl e210 (S_1.ext O0.2) (g := (mkF m 37 #[.val (.ref r0)] [])) rfl (hb hby d13_37)
  obtain ⟨T212, X212, e212, st212⟩ := getS2 X211 hx hZ hown (host := "") (Or.inl (hw _ (tk 103 rfl))) Via.refl e211 (S_1.ext O0.2) (g := (mkF m 70 #[.val (.ref r0)] [])) rfl (hb hby d13_70)
  obtain ⟨fs, hr, hrun, hended, hW, hsame⟩ := X212.leave (v := none) (fun _ => rfl)
  refine ⟨_, _, pre0 _ ?_, hrun, hended, _, _, rfl, ?_, ⟨_, rfl⟩, hW, hsame.mono (by decide) (by decide)⟩
  · show Steps p.tables e below (s₁.setTop (mkF m 0 #[.val (.ref r0)] [])) _
    refine st210 _ ?_
    show Steps p.tables e below (T210.setTop (mkF m 3 #[.val (.ref r0)] [(.int (1 : Int32))])) _
    refine XS.ifYes X210.here hx rfl (pc0 := 3) (pc' := 37) rfl (hb hby d13_3) rfl ((if0 _ _).trans (feq (by decide : ¬ ((1 : Int32) = (0 : Int32)))).2) (by decide) (by decide) ?_
    show Steps p.tables e below (T210.setTop (mkF m 37 #[.val (.ref r0)] [])) _
    refine st211 _ ?_
    show Steps p.tables e below (T211.setTop (mkF m 40 #[.val (.ref r0)] [(.int (1 : Int32))])) _
    refine XS.ifYes X211.here hx rfl (pc0 := 40) (pc' := 70) rfl (hb hby d13_40) rfl ((if0 _ _).trans (feq (by decide : ¬ ((1 : Int32) = (0 : Int32)))).2) (by decide) (by decide) ?_
    show Steps p.tables e below (T211.setTop (mkF m 70 #[.val (.ref r0)] [])) _
    refine st212 _ ?_
    show Steps p.tables e below (T212.setTop (mkF m 73 #[.val (.ref r0)] [(.int (1 : Int32))])) _
    refine XS.ifYes X212.here hx rfl (pc0 := 73) (pc' := 110) rfl (hb hby d13_73) rfl ((if0 _ _).trans (feq (by decide : ¬ ((1 : Int32) = (0 : Int32)))).2) (by decide) (by decide) ?_
    show Steps p.tables e below (T212.setTop (mkF m 110 #[.val (.ref r0)] [])) _
    exact X212.returnOut hx Bd.returns (hb hby d13_110) hr
  · show Q13x1 Z r0 r0_words k_r0_words h0 n0 _ T212.heap _
    rw [e212]
    exact ⟨rfl, N0, rfl⟩
theorem pn_12x1 : plainName "java/util/BitSet" = true := by first | (simp [plainName, overriddenIn]; done) | decide +kernel
theorem ef_12x1 (m : MethodId) (r0 : Addr) (p1 : Int32) : entryFrame m #[(.ref r0), (.int p1)] 3 = mkF m 0 #[.val (.ref r0), .val (.int p1), .unset] [] := by first | (simp [entryFrame, mkF, argsToLocals, Value.category]; done) | rfl
def Q12x1 (Z : State) (r0 : Addr) (p1 : Int32) (r0_words : Addr) (k_r0_words : ClassId) (h0 : Heap) (n0 : Nat) (v : Option Value) (h : Heap) (L : List Loc) : Prop := v = some (.int (0 : Int32)) ∧ Fr n0 L ∧ h = h0
set_option maxRecDepth 65536 in
set_option maxHeartbeats 40000000 in
theorem rm12x1 (l : Launch) (Z : State) (a0 : Array Value) (hw : ∀ d ∈ tables_1, d.before a0 Z = true) (ws : List Jvm.Cond) (hS : StF Z) (r0 : Addr) (p1 : Int32) (r0_words : Addr) (k_r0_words : ClassId) (h0 : Heap) (n0 : Nat) (O0 : Old Z n0 h0) (g_r0 : n0 ≤ r0) (g_r0_words : n0 ≤ r0_words) (E_r0 : Exa Z h0 r0 "java/util/BitSet") (F_words_r0 : Fld Z h0 r0 "java/util/BitSet" "words" "[J" (.ref r0_words)) (F_wordsInUse_r0 : Fld Z h0 r0 "java/util/BitSet" "wordsInUse" "I" (.int (0 : Int32))) (V_r0_words : Arv Z h0 r0_words k_r0_words .long ((((64 : Int32) - (1 : Int32)) >>> ((6 : Int32) &&& 31)) + (1 : Int32)) [(.long (0 : Int64))] (.long (0 : Int64))) (ne_r0_r0_words : r0 ≠ r0_words) (as0 : ¬ (p1 < (0 : Int32))) (as1 : ¬ ((p1 >>> ((6 : Int32) &&& 31)) < (0 : Int32))) :
    MetFree l Y10 (head1 (Jvm.Cond.code Y10 jdk_92_method_26_code 3 (some .boolean) :: ws) ({ frames := 1, cells := 0, slots := 0, locals := 12 } : Room)) (fun a U => a = #[(.ref r0), (.int p1)] ∧ Z.Warmed39 U.vm ∧ U.heap = h0) (fun _ _ _ _ _ => True) (fun _ U o U' => ∃ v L, o = .returned v ∧ Q12x1 Z r0 p1 r0_words k_r0_words h0 n0 v U'.heap L ∧ FrameEnd U o U' L ({ frames := 1, cells := 0, slots := 0, locals := 12 } : Room).cells ({ frames := 1, cells := 0, slots := 0, locals := 12 } : Room).slots) := by
  refine MetFree.of_bodySF (plainFor_of_name pn_12x1) hisR ?_
  intro p e s m args below meth c s₁ Bd hml0 hP hK
  obtain ⟨rfl, hZ, hh⟩ := hP
  have hx := Bd.exec
  have hby := Bd.bytes
  have hml : c.maxLocals = 3 := hml0
  have hown : s.vm.findClass "java/util/BitSet" = some m.cls := findClass_of_methodNamed Bd.named
  have hnm := (name_of_methodNamed Bd.named Bd.method).1
  have X0 : Stand p l e ({ frames := 1, cells := 0, slots := 0, locals := 12 } : Room) s m #[(.ref r0), (.int p1)] below meth c s₁ [] 0 0 := Stand.of_body Bd
  have e0 : s₁.heap = h0 := by rw [← hh, Bd.state]; rfl
  have N0 := Fr.nil n0
  have hS0 := hS
  have S_1 := hS
  have pre0 : ∀ t, Steps p.tables e below (s₁.setTop (mkF m 0 #[.val (.ref r0), .val (.int p1), .unset] [])) t → Steps p.tables e below (s₁.setTop (entryFrame m #[(.ref r0), (.int p1)] 3)) t := fun t k => castTop (ef_12x1 m r0 p1) k
  obtain ⟨cq222, q222, q222'⟩ := E_r0.cell
  obtain ⟨_, _, ⟨T222, L222, k222, n222⟩, -, X222, ⟨Lc222, hQ222, l222, y222, z222⟩, st222⟩ := X0.privateBack hx (y := Y9) hown (mvT hZ (hw _ (tk 98 rfl))) (mvT hZ (hw _ (tk 99 rfl))) (mvT hZ (hw _ (tk 101 rfl))) (Cond.privateMethod_at (mvP hZ (hw _ (tk 100 rfl)) (args := #[]))) (mvT hZ (hw _ (tk 102 rfl))) (by decide) (backOf (W := 0) (rm13x1 l Z a0 hw [] hS0 r0 r0_words k_r0_words h0 n0 O0 g_r0 g_r0_words E_r0 F_words_r0 F_wordsInUse_r0 V_r0_words ne_r0_r0_words) hZ (hw _ (tk 102 rfl)) (hw _ (tk 56 rfl)) (by decide) (by decide)) (g := (mkF m 32 #[.val (.ref r0), .val (.int p1), .unset] [(.ref r0)])) rfl (by rw [hml]; rfl) (Steps.refl _) (a := r0) (by rw [e0]; exact q222) q222' (argsL := []) (rest := []) (lenOf pd_0 rfl) rfl (by show 2 * 0 + _ ≤ _; exact Nat.le_of_eq rfl) (hb hby d12_32) (fun _ _ => ⟨rfl, e0, (by decide : 0 + 0 ≤ _), (by decide : 0 + 0 ≤ _)⟩)
  dsimp only [Pt.U, Pt.locs, Pt.cells, Pt.slots] at X222 l222 y222 z222 st222 hQ222
  subst l222 y222 z222
  obtain ⟨rv222, N222q, e222⟩ := hQ222
  subst rv222
  have N222 := Fr.app N0 N222q
  obtain ⟨_, _, ⟨T223, L223, k223, n223⟩, -, X223, ⟨Lc223, hQ223, l223, y223, z223⟩, st223⟩ := Jvm.LawKit.callS X222 hx (y := Y4) hown (mvT hZ (hw _ (tk 70 rfl))) (mvT hZ (hw _ (tk 71 rfl))) (mvT hZ (hw _ (tk 56 rfl))) (mvT hZ (hw _ (tk 72 rfl))) (by decide) (backOf (W := 0) (rm9 l Z a0 hw [] hS0 p1 h0 n0 O0) hZ (hw _ (tk 72 rfl)) (hw _ (tk 56 rfl)) (by decide) (by decide)) (g := (mkF m 36 #[.val (.ref r0), .val (.int p1), .unset] [(.int p1)])) rfl (by rw [hml]; rfl) (argsL := [(.int p1)]) (rest := []) (lenOf pd_2 rfl) rfl (by show 2 * 0 + _ ≤ _; exact Nat.le_of_eq rfl) (hb hby d12_36) (fun _ _ => ⟨rfl, e222, (by decide : 0 + 0 ≤ _), (by decide : 0 + 0 ≤ _)⟩)
  dsimp only [Pt.U, Pt.locs, Pt.cells, Pt.slots] at X223 l223 y223 z223 st223 hQ223
  subst l223 y223 z223
  obtain ⟨rv223, N223q, e223⟩ := hQ223
  rw [show sp9 p1 = (p1 >>> ((6 : Int32) &&& 31)) from by unfold sp9; rfl] at rv223
  subst rv223
  have N223 := Fr.app N222 N223q
  obtain ⟨T224, X224, e224, st224⟩ := getF X223 hx hZ hown (host := "") (Or.inl (hw _ (tk 61 rfl))) Via.refl e223 F_wordsInUse_r0 (g := (mkF m 42 #[.val (.ref r0), .val (.int p1), .val (.int (p1 >>> ((6 : Int32) &&& 31)))] [(.ref r0), (.int (p1 >>> ((6 : Int32) &&& 31)))])) rfl rfl (hb hby d12_42)
  obtain ⟨fs, hr, hrun, hended, hW, hsame⟩ := X224.leave (v := some (.int (0 : Int32))) (fun h => by rw [Bd.returns] at h; cases h)
  refine ⟨_, _, pre0 _ ?_, hrun, hended, _, _, rfl, ?_, ⟨_, rfl⟩, hW, hsame.mono (by decide) (by decide)⟩
  · show Steps p.tables e below (s₁.setTop (mkF m 0 #[.val (.ref r0), .val (.int p1), .unset] [])) _
    refine XS.iloadN X0.here hx rfl (hb hby d12_0) rfl ?_
    show Steps p.tables e below (s₁.setTop (mkF m 1 #[.val (.ref r0), .val (.int p1), .unset] [(.int p1)])) _
    refine XS.ifYes X0.here hx rfl (pc0 := 1) (pc' := 31) rfl (hb hby d12_1) rfl ((if0 _ _).trans (flt as0).2.1) (by decide) (by decide) ?_
    show Steps p.tables e below (s₁.setTop (mkF m 31 #[.val (.ref r0), .val (.int p1), .unset] [])) _
    refine XS.aloadN X0.here hx rfl (hb hby d12_31) rfl rfl ?_
    show Steps p.tables e below (s₁.setTop (mkF m 32 #[.val (.ref r0), .val (.int p1), .unset] [(.ref r0)])) _
    refine st222.trans ?_
    show Steps p.tables e below (T222.setTop (mkF m 35 #[.val (.ref r0), .val (.int p1), .unset] [])) _
    refine XS.iloadN X222.here hx rfl (hb hby d12_35) rfl ?_
    show Steps p.tables e below (T222.setTop (mkF m 36 #[.val (.ref r0), .val (.int p1), .unset] [(.int p1)])) _
    refine st223 _ ?_
    show Steps p.tables e below (T223.setTop (mkF m 39 #[.val (.ref r0), .val (.int p1), .unset] [(.int (p1 >>> ((6 : Int32) &&& 31)))])) _
    refine XS.istoreN X223.here hx rfl (hb hby d12_39) rfl (l' := #[.val (.ref r0), .val (.int p1), .val (.int (p1 >>> ((6 : Int32) &&& 31)))]) rfl ?_
    show Steps p.tables e below (T223.setTop (mkF m 40 #[.val (.ref r0), .val (.int p1), .val (.int (p1 >>> ((6 : Int32) &&& 31)))] [])) _
    refine XS.iloadN X223.here hx rfl (hb hby d12_40) rfl ?_
    show Steps p.tables e below (T223.setTop (mkF m 41 #[.val (.ref r0), .val (.int p1), .val (.int (p1 >>> ((6 : Int32) &&& 31)))] [(.int (p1 >>> ((6 : Int32) &&& 31)))])) _
    refine XS.aloadN X223.here hx rfl (hb hby d12_41) rfl rfl ?_
    show Steps p.tables e below (T223.setTop (mkF m 42 #[.val (.ref r0), .val (.int p1), .val (.int (p1 >>> ((6 : Int32) &&& 31)))] [(.ref r0), (.int (p1 >>> ((6 : Int32) &&& 31)))])) _
    refine st224 _ ?_
    show Steps p.tables e below (T224.setTop (mkF m 45 #[.val (.ref r0), .val (.int p1), .val (.int (p1 >>> ((6 : Int32) &&& 31)))] [(.int (0 : Int32)), (.int (p1 >>> ((6 : Int32) &&& 31)))])) _
    refine XS.icmpYes X224.here hx rfl (pc0 := 45) (pc' := 67) rfl (hb hby d12_45) rfl (flt as1).2.1 (by decide) (by decide) ?_
    show Steps p.tables e below (T224.setTop (mkF m 67 #[.val (.ref r0), .val (.int p1), .val (.int (p1 >>> ((6 : Int32) &&& 31)))] [])) _
    refine XS.iconst X224.here hx rfl (hb hby d12_67) ?_
    show Steps p.tables e below (T224.setTop (mkF m 68 #[.val (.ref r0), .val (.int p1), .val (.int (p1 >>> ((6 : Int32) &&& 31)))] [(.int (0 : Int32))])) _
    exact retN X224 hx (t := .boolean) Bd.returns (by simp) (hb hby d12_68) hr
  · show Q12x1 Z r0 p1 r0_words k_r0_words h0 n0 _ T224.heap _
    rw [e224]
    exact ⟨rfl, N223, rfl⟩
theorem pn_11x1 : plainName "com/example/vetd/vetd/Policy$Lines" = true := by first | (simp [plainName, overriddenIn]; done) | decide +kernel
theorem ef_11x1 (m : MethodId) (r0 : Addr) (r1 : Addr) : entryFrame m #[(.ref r0), (.ref r1)] 7 = mkF m 0 #[.val (.ref r0), .val (.ref r1), .unset, .unset, .unset, .unset, .unset] [] := by first | (simp [entryFrame, mkF, argsToLocals, Value.category]; done) | rfl
def Q11x1 (Z : State) (r0 : Addr) (r1 : Addr) (r0_denied : Addr) (r0_denied_words : Addr) (r0_permitted : Addr) (r0_permitted_words : Addr) (k_r0_denied_words : ClassId) (k_r0_permitted_words : ClassId) (k_r1 : ClassId) (x_r1_0 : Int32) (h0 : Heap) (n0 : Nat) (v : Option Value) (h : Heap) (L : List Loc) : Prop := v = some .null ∧ Fr n0 L ∧ h = h0
set_option maxRecDepth 65536 in
set_option maxHeartbeats 40000000 in
theorem rm11x1 (l : Launch) (Z : State) (a0 : Array Value) (hw : ∀ d ∈ tables_1, d.before a0 Z = true) (ws : List Jvm.Cond) (hS : StF Z) (r0 : Addr) (r1 : Addr) (r0_denied : Addr) (r0_denied_words : Addr) (r0_permitted : Addr) (r0_permitted_words : Addr) (k_r0_denied_words : ClassId) (k_r0_permitted_words : ClassId) (k_r1 : ClassId) (x_r1_0 : Int32) (h0 : Heap) (n0 : Nat) (O0 : Old Z n0 h0) (g_r0 : n0 ≤ r0) (g_r0_denied : n0 ≤ r0_denied) (g_r0_denied_words : n0 ≤ r0_denied_words) (g_r0_permitted : n0 ≤ r0_permitted) (g_r0_permitted_words : n0 ≤ r0_permitted_words) (g_r1 : n0 ≤ r1) (E_r0 : Exa Z h0 r0 "com/example/vetd/vetd/Policy$Lines") (F_denied_r0 : Fld Z h0 r0 "com/example/vetd/vetd/Policy$Lines" "denied" "Ljava/util/BitSet;" (.ref r0_denied)) (F_permitted_r0 : Fld Z h0 r0 "com/example/vetd/vetd/Policy$Lines" "permitted" "Ljava/util/BitSet;" (.ref r0_permitted)) (E_r0_denied : Exa Z h0 r0_denied "java/util/BitSet") (F_words_r0_denied : Fld Z h0 r0_denied "java/util/BitSet" "words" "[J" (.ref r0_denied_words)) (F_wordsInUse_r0_denied : Fld Z h0 r0_denied "java/util/BitSet" "wordsInUse" "I" (.int (0 : Int32))) (V_r0_denied_words : Arv Z h0 r0_denied_words k_r0_denied_words .long ((((64 : Int32) - (1 : Int32)) >>> ((6 : Int32) &&& 31)) + (1 : Int32)) [(.long (0 : Int64))] (.long (0 : Int64))) (E_r0_permitted : Exa Z h0 r0_permitted "java/util/BitSet") (F_words_r0_permitted : Fld Z h0 r0_permitted "java/util/BitSet" "words" "[J" (.ref r0_permitted_words)) (F_wordsInUse_r0_permitted : Fld Z h0 r0_permitted "java/util/BitSet" "wordsInUse" "I" (.int (0 : Int32))) (V_r0_permitted_words : Arv Z h0 r0_permitted_words k_r0_permitted_words .long ((((64 : Int32) - (1 : Int32)) >>> ((6 : Int32) &&& 31)) + (1 : Int32)) [(.long (0 : Int64))] (.long (0 : Int64))) (V_r1 : Arv Z h0 r1 k_r1 .int (1 : Int32) [(.int x_r1_0)] (.int (0 : Int32))) (ne_r0_r0_denied : r0 ≠ r0_denied) (ne_r0_r0_denied_words : r0 ≠ r0_denied_words) (ne_r0_r0_permitted : r0 ≠ r0_permitted) (ne_r0_r0_permitted_words : r0 ≠ r0_permitted_words) (ne_r0_r1 : r0 ≠ r1) (ne_r0_denied_r0_denied_words : r0_denied ≠ r0_denied_words) (ne_r0_denied_r0_permitted : r0_denied ≠ r0_permitted) (ne_r0_denied_r0_permitted_words : r0_denied ≠ r0_permitted_words) (ne_r0_denied_r1 : r0_denied ≠ r1) (ne_r0_denied_words_r0_permitted : r0_denied_words ≠ r0_permitted) (ne_r0_denied_words_r0_permitted_words : r0_denied_words ≠ r0_permitted_words) (ne_r0_denied_words_r1 : r0_denied_words ≠ r1) (ne_r0_permitted_r0_permitted_words : r0_permitted ≠ r0_permitted_words) (ne_r0_permitted_r1 : r0_permitted ≠ r1) (ne_r0_permitted_words_r1 : r0_permitted_words ≠ r1) (as0 : ¬ (x_r1_0 < (0 : Int32))) (as1 : ¬ ((x_r1_0 >>> ((6 : Int32) &&& 31)) < (0 : Int32))) :
    MetFree l Y11 (head1 (Jvm.Cond.code Y11 prog_20_method_2_code 7 (some (.object "com/example/vetd/vetd/Decision")) :: ws) ({ frames := 2, cells := 0, slots := 0, locals := 26 } : Room)) (fun a U => a = #[(.ref r0), (.ref r1)] ∧ Z.Warmed39 U.vm ∧ U.heap = h0) (fun _ _ _ _ _ => True) (fun _ U o U' => ∃ v L, o = .returned v ∧ Q11x1 Z r0 r1 r0_denied r0_denied_words r0_permitted r0_permitted_words k_r0_denied_words k_r0_permitted_words k_r1 x_r1_0 h0 n0 v U'.heap L ∧ FrameEnd U o U' L ({ frames := 2, cells := 0, slots := 0, locals := 26 } : Room).cells ({ frames := 2, cells := 0, slots := 0, locals := 26 } : Room).slots) := by
  refine MetFree.of_bodySF (plainFor_of_name pn_11x1) hisR ?_
  intro p e s m args below meth c s₁ Bd hml0 hP hK
  obtain ⟨rfl, hZ, hh⟩ := hP
  have hx := Bd.exec
  have hby := Bd.bytes
  have hml : c.maxLocals = 7 := hml0
  have hown : s.vm.findClass "com/example/vetd/vetd/Policy$Lines" = some m.cls := findClass_of_methodNamed Bd.named
  have hnm := (name_of_methodNamed Bd.named Bd.method).1
  have X0 : Stand p l e ({ frames := 2, cells := 0, slots := 0, locals := 26 } : Room) s m #[(.ref r0), (.ref r1)] below meth c s₁ [] 0 0 := Stand.of_body Bd
  have e0 : s₁.heap = h0 := by rw [← hh, Bd.state]; rfl
  have N0 := Fr.nil n0
  have hS0 := hS
  have S_1 := hS
  have pre0 : ∀ t, Steps p.tables e below (s₁.setTop (mkF m 0 #[.val (.ref r0), .val (.ref r1), .unset, .unset, .unset, .unset, .unset] [])) t → Steps p.tables e below (s₁.setTop (entryFrame m #[(.ref r0), (.ref r1)] 7)) t := fun t k => castTop (ef_11x1 m r0 r1) k
  obtain ⟨cl216, Ar216, qa216, Sa216, Ma216, Ha216, Ga216⟩ := id V_r1
  obtain ⟨cl217, Ar217, qa217, Sa217, Ma217, Ha217, Ga217⟩ := id V_r1
  have hin217 : ¬ ((0 : Int32) < 0 ∨ cl217.slots.size ≤ ((0 : Int32)).toNatClampNeg) := by  exact inb_of Sa217 ⟨by decide, by decide⟩
  have hat217 : cl217.slots[((0 : Int32)).toNatClampNeg]? = some (.int x_r1_0) := Has.at Ha217 hin217 (by rfl)
  obtain ⟨T218, X218, e218, st218⟩ := getF X0 hx hZ hown (host := "") (Or.inl (hw _ (tk 78 rfl))) Via.refl e0 F_denied_r0 (g := (mkF m 25 #[.val (.ref r0), .val (.ref r1), .val .null, .val (.ref r1), .val (.int (1 : Int32)), .val (.int (0 : Int32)), .val (.int x_r1_0)] [(.ref r0)])) rfl rfl (hb hby d11_25)
  obtain ⟨cq225, kq225, q225a, q225b, q225c⟩ := isOf hZ e218 E_r0_denied
  obtain ⟨_, _, ⟨T225, L225, k225, n225⟩, -, X225, ⟨Lc225, hQ225, l225, y225, z225⟩, st225⟩ := X218.virtualBack hx (y := Y10) (z := Y10) hown (mvT hZ (hw _ (tk 93 rfl))) (mvT hZ (hw _ (tk 94 rfl))) (notFace_of_selects (args := #[]) (mvT hZ (hw _ (tk 96 rfl)))) (mvT hZ (hw _ (tk 96 rfl))) (mvT hZ (hw _ (tk 95 rfl))) (by decide) (backOf (W := 0) (rm12x1 l Z a0 hw [] hS0 r0_denied x_r1_0 r0_denied_words k_r0_denied_words h0 n0 O0 g_r0_denied g_r0_denied_words E_r0_denied F_words_r0_denied F_wordsInUse_r0_denied V_r0_denied_words ne_r0_denied_r0_denied_words as0 as1) hZ (hw _ (tk 97 rfl)) (hw _ (tk 56 rfl)) (by decide) (by decide)) q225a q225c (g := (mkF m 30 #[.val (.ref r0), .val (.ref r1), .val .null, .val (.ref r1), .val (.int (1 : Int32)), .val (.int (0 : Int32)), .val (.int x_r1_0)] [(.int x_r1_0), (.ref r0_denied)])) rfl (by rw [hml]; rfl) (Steps.refl _) (argsL := [(.int x_r1_0)]) (rest := []) (lenOf pd_4 rfl) rfl (by show 2 * 0 + _ ≤ _; exact Nat.le_of_eq rfl) (hb hby d11_30) (fun _ _ => ⟨rfl, e218, (by decide : 0 + 0 ≤ _), (by decide : 0 + 0 ≤ _)⟩)
  dsimp only [Pt.U, Pt.locs, Pt.cells, Pt.slots] at X225 l225 y225 z225 st225 hQ225
  subst l225 y225 z225
  obtain ⟨rv225, N225q, e225⟩ := hQ225
  subst rv225
  have N225 := Fr.app N0 N225q
  obtain ⟨T226, X226, e226, st226⟩ := getF X225 hx hZ hown (host := "") (Or.inl (hw _ (tk 76 rfl))) Via.refl e225 F_permitted_r0 (g := (mkF m 41 #[.val (.ref r0), .val (.ref r1), .val .null, .val (.ref r1), .val (.int (1 : Int32)), .val (.int (0 : Int32)), .val (.int x_r1_0)] [(.ref r0)])) rfl rfl (hb hby d11_41)
  obtain ⟨cq230, kq230, q230a, q230b, q230c⟩ := isOf hZ e226 E_r0_permitted
  obtain ⟨_, _, ⟨T230, L230, k230, n230⟩, -, X230, ⟨Lc230, hQ230, l230, y230, z230⟩, st230⟩ := X226.virtualBack hx (y := Y10) (z := Y10) hown (mvT hZ (hw _ (tk 93 rfl))) (mvT hZ (hw _ (tk 94 rfl))) (notFace_of_selects (args := #[]) (mvT hZ (hw _ (tk 96 rfl)))) (mvT hZ (hw _ (tk 96 rfl))) (mvT hZ (hw _ (tk 95 rfl))) (by decide) (backOf (W := 0) (rm12x1 l Z a0 hw [] hS0 r0_permitted x_r1_0 r0_permitted_words k_r0_permitted_words h0 n0 O0 g_r0_permitted g_r0_permitted_words E_r0_permitted F_words_r0_permitted F_wordsInUse_r0_permitted V_r0_permitted_words ne_r0_permitted_r0_permitted_words as0 as1) hZ (hw _ (tk 97 rfl)) (hw _ (tk 56 rfl)) (by decide) (by decide)) q230a q230c (g := (mkF m 46 #[.val (.ref r0), .val (.ref r1), .val .null, .val (.ref r1), .val (.int (1 : Int32)), .val (.int (0 : Int32)), .val (.int x_r1_0)] [(.int x_r1_0), (.ref r0_permitted)])) rfl (by rw [hml]; rfl) (Steps.refl _) (argsL := [(.int x_r1_0)]) (rest := []) (lenOf pd_4 rfl) rfl (by show 2 * 0 + _ ≤ _; exact Nat.le_of_eq rfl) (hb hby d11_46) (fun _ _ => ⟨rfl, e226, (by decide : 0 + 0 ≤ _), (by decide : 0 + 0 ≤ _)⟩)
  dsimp only [Pt.U, Pt.locs, Pt.cells, Pt.slots] at X230 l230 y230 z230 st230 hQ230
  subst l230 y230 z230
  obtain ⟨rv230, N230q, e230⟩ := hQ230
  subst rv230
  have N230 := Fr.app N225 N230q
  obtain ⟨fs, hr, hrun, hended, hW, hsame⟩ := X230.leave (v := some .null) (fun h => by rw [Bd.returns] at h; cases h)
  refine ⟨_, _, pre0 _ ?_, hrun, hended, _, _, rfl, ?_, ⟨_, rfl⟩, hW, hsame.mono (by decide) (by decide)⟩
  · show Steps p.tables e below (s₁.setTop (mkF m 0 #[.val (.ref r0), .val (.ref r1), .unset, .unset, .unset, .unset, .unset] [])) _
    refine XS.aconstNull X0.here hx rfl (hb hby d11_0) ?_
    show Steps p.tables e below (s₁.setTop (mkF m 1 #[.val (.ref r0), .val (.ref r1), .unset, .unset, .unset, .unset, .unset] [.null])) _
    refine XS.astoreN X0.here hx rfl (hb hby d11_1) rfl rfl (l' := #[.val (.ref r0), .val (.ref r1), .val .null, .unset, .unset, .unset, .unset]) rfl ?_
    show Steps p.tables e below (s₁.setTop (mkF m 2 #[.val (.ref r0), .val (.ref r1), .val .null, .unset, .unset, .unset, .unset] [])) _
    refine XS.aloadN X0.here hx rfl (hb hby d11_2) rfl rfl ?_
    show Steps p.tables e below (s₁.setTop (mkF m 3 #[.val (.ref r0), .val (.ref r1), .val .null, .unset, .unset, .unset, .unset] [(.ref r1)])) _
    refine XS.astoreN X0.here hx rfl (hb hby d11_3) rfl rfl (l' := #[.val (.ref r0), .val (.ref r1), .val .null, .val (.ref r1), .unset, .unset, .unset]) rfl ?_
    show Steps p.tables e below (s₁.setTop (mkF m 4 #[.val (.ref r0), .val (.ref r1), .val .null, .val (.ref r1), .unset, .unset, .unset] [])) _
    refine XS.aloadN X0.here hx rfl (hb hby d11_4) rfl rfl ?_
    show Steps p.tables e below (s₁.setTop (mkF m 5 #[.val (.ref r0), .val (.ref r1), .val .null, .val (.ref r1), .unset, .unset, .unset] [(.ref r1)])) _
    refine X0.arraylength hx (by rw [e0]; exact Ar216.1) (State.isArrayOf_alike hZ.alike Ar216.2.1) (g := (mkF m 5 #[.val (.ref r0), .val (.ref r1), .val .null, .val (.ref r1), .unset, .unset, .unset] [(.ref r1)])) rfl rfl (hb hby d11_5) _ ?_
    rw [len_of Sa216 Ma216]
    show Steps p.tables e below (s₁.setTop (mkF m 6 #[.val (.ref r0), .val (.ref r1), .val .null, .val (.ref r1), .unset, .unset, .unset] [(.int (1 : Int32))])) _
    refine XS.istore X0.here hx rfl (hb hby d11_6) rfl (l' := #[.val (.ref r0), .val (.ref r1), .val .null, .val (.ref r1), .val (.int (1 : Int32)), .unset, .unset]) rfl ?_
    show Steps p.tables e below (s₁.setTop (mkF m 8 #[.val (.ref r0), .val (.ref r1), .val .null, .val (.ref r1), .val (.int (1 : Int32)), .unset, .unset] [])) _
    refine XS.iconst X0.here hx rfl (hb hby d11_8) ?_
    show Steps p.tables e below (s₁.setTop (mkF m 9 #[.val (.ref r0), .val (.ref r1), .val .null, .val (.ref r1), .val (.int (1 : Int32)), .unset, .unset] [(.int (0 : Int32))])) _
    refine XS.istore X0.here hx rfl (hb hby d11_9) rfl (l' := #[.val (.ref r0), .val (.ref r1), .val .null, .val (.ref r1), .val (.int (1 : Int32)), .val (.int (0 : Int32)), .unset]) rfl ?_
    show Steps p.tables e below (s₁.setTop (mkF m 11 #[.val (.ref r0), .val (.ref r1), .val .null, .val (.ref r1), .val (.int (1 : Int32)), .val (.int (0 : Int32)), .unset] [])) _
    refine XS.iload X0.here hx rfl (hb hby d11_11) rfl ?_
    show Steps p.tables e below (s₁.setTop (mkF m 13 #[.val (.ref r0), .val (.ref r1), .val .null, .val (.ref r1), .val (.int (1 : Int32)), .val (.int (0 : Int32)), .unset] [(.int (0 : Int32))])) _
    refine XS.iload X0.here hx rfl (hb hby d11_13) rfl ?_
    show Steps p.tables e below (s₁.setTop (mkF m 15 #[.val (.ref r0), .val (.ref r1), .val .null, .val (.ref r1), .val (.int (1 : Int32)), .val (.int (0 : Int32)), .unset] [(.int (1 : Int32)), (.int (0 : Int32))])) _
    refine XS.icmpNo X0.here hx rfl (hb hby d11_15) rfl (tlt (by decide : ((0 : Int32) < (1 : Int32)))).2.1 ?_
    show Steps p.tables e below (s₁.setTop (mkF m 18 #[.val (.ref r0), .val (.ref r1), .val .null, .val (.ref r1), .val (.int (1 : Int32)), .val (.int (0 : Int32)), .unset] [])) _
    refine XS.aloadN X0.here hx rfl (hb hby d11_18) rfl rfl ?_
    show Steps p.tables e below (s₁.setTop (mkF m 19 #[.val (.ref r0), .val (.ref r1), .val .null, .val (.ref r1), .val (.int (1 : Int32)), .val (.int (0 : Int32)), .unset] [(.ref r1)])) _
    refine XS.iload X0.here hx rfl (hb hby d11_19) rfl ?_
    show Steps p.tables e below (s₁.setTop (mkF m 21 #[.val (.ref r0), .val (.ref r1), .val .null, .val (.ref r1), .val (.int (1 : Int32)), .val (.int (0 : Int32)), .unset] [(.int (0 : Int32)), (.ref r1)])) _
    refine X0.iaload hx (j := (0 : Int32)) (v := (.int x_r1_0)) (by rw [e0]; exact Ar217.1) (State.isArrayOf_alike hZ.alike Ar217.2.1) Ar217.2.2 hin217 hat217 (g := (mkF m 21 #[.val (.ref r0), .val (.ref r1), .val .null, .val (.ref r1), .val (.int (1 : Int32)), .val (.int (0 : Int32)), .unset] [(.int (0 : Int32)), (.ref r1)])) rfl rfl (hb hby d11_21) _ ?_
    show Steps p.tables e below (s₁.setTop (mkF m 22 #[.val (.ref r0), .val (.ref r1), .val .null, .val (.ref r1), .val (.int (1 : Int32)), .val (.int (0 : Int32)), .unset] [(.int x_r1_0)])) _
    refine XS.istore X0.here hx rfl (hb hby d11_22) rfl (l' := #[.val (.ref r0), .val (.ref r1), .val .null, .val (.ref r1), .val (.int (1 : Int32)), .val (.int (0 : Int32)), .val (.int x_r1_0)]) rfl ?_
    show Steps p.tables e below (s₁.setTop (mkF m 24 #[.val (.ref r0), .val (.ref r1), .val .null, .val (.ref r1), .val (.int (1 : Int32)), .val (.int (0 : Int32)), .val (.int x_r1_0)] [])) _
    refine XS.aloadN X0.here hx rfl (hb hby d11_24) rfl rfl ?_
    show Steps p.tables e below (s₁.setTop (mkF m 25 #[.val (.ref r0), .val (.ref r1), .val .null, .val (.ref r1), .val (.int (1 : Int32)), .val (.int (0 : Int32)), .val (.int x_r1_0)] [(.ref r0)])) _
    refine st218 _ ?_
    show Steps p.tables e below (T218.setTop (mkF m 28 #[.val (.ref r0), .val (.ref r1), .val .null, .val (.ref r1), .val (.int (1 : Int32)), .val (.int (0 : Int32)), .val (.int x_r1_0)] [(.ref r0_denied)])) _
    refine XS.iload X218.here hx rfl (hb hby d11_28) rfl ?_
    show Steps p.tables e below (T218.setTop (mkF m 30 #[.val (.ref r0), .val (.ref r1), .val .null, .val (.ref r1), .val (.int (1 : Int32)), .val (.int (0 : Int32)), .val (.int x_r1_0)] [(.int x_r1_0), (.ref r0_denied)])) _
    refine st225.trans ?_
    show Steps p.tables e below (T225.setTop (mkF m 33 #[.val (.ref r0), .val (.ref r1), .val .null, .val (.ref r1), .val (.int (1 : Int32)), .val (.int (0 : Int32)), .val (.int x_r1_0)] [(.int (0 : Int32))])) _
    refine XS.ifYes X225.here hx rfl (pc0 := 33) (pc' := 40) rfl (hb hby d11_33) rfl ((if0 _ _).trans (teq (by decide : ((0 : Int32) = (0 : Int32)))).1) (by decide) (by decide) ?_
    show Steps p.tables e below (T225.setTop (mkF m 40 #[.val (.ref r0), .val (.ref r1), .val .null, .val (.ref r1), .val (.int (1 : Int32)), .val (.int (0 : Int32)), .val (.int x_r1_0)] [])) _
    refine XS.aloadN X225.here hx rfl (hb hby d11_40) rfl rfl ?_
    show Steps p.tables e below (T225.setTop (mkF m 41 #[.val (.ref r0), .val (.ref r1), .val .null, .val (.ref r1), .val (.int (1 : Int32)), .val (.int (0 : Int32)), .val (.int x_r1_0)] [(.ref r0)])) _
    refine st226 _ ?_
    show Steps p.tables e below (T226.setTop (mkF m 44 #[.val (.ref r0), .val (.ref r1), .val .null, .val (.ref r1), .val (.int (1 : Int32)), .val (.int (0 : Int32)), .val (.int x_r1_0)] [(.ref r0_permitted)])) _
    refine XS.iload X226.here hx rfl (hb hby d11_44) rfl ?_
    show Steps p.tables e below (T226.setTop (mkF m 46 #[.val (.ref r0), .val (.ref r1), .val .null, .val (.ref r1), .val (.int (1 : Int32)), .val (.int (0 : Int32)), .val (.int x_r1_0)] [(.int x_r1_0), (.ref r0_permitted)])) _
    refine st230.trans ?_
    show Steps p.tables e below (T230.setTop (mkF m 49 #[.val (.ref r0), .val (.ref r1), .val .null, .val (.ref r1), .val (.int (1 : Int32)), .val (.int (0 : Int32)), .val (.int x_r1_0)] [(.int (0 : Int32))])) _
    refine XS.ifYes X230.here hx rfl (pc0 := 49) (pc' := 56) rfl (hb hby d11_49) rfl ((if0 _ _).trans (teq (by decide : ((0 : Int32) = (0 : Int32)))).1) (by decide) (by decide) ?_
    show Steps p.tables e below (T230.setTop (mkF m 56 #[.val (.ref r0), .val (.ref r1), .val .null, .val (.ref r1), .val (.int (1 : Int32)), .val (.int (0 : Int32)), .val (.int x_r1_0)] [])) _
    refine XS.iinc X230.here hx rfl (hb hby d11_56) rfl (l' := #[.val (.ref r0), .val (.ref r1), .val .null, .val (.ref r1), .val (.int (1 : Int32)), .val (.int ((0 : Int32) + (1 : Int32))), .val (.int x_r1_0)]) rfl ?_
    show Steps p.tables e below (T230.setTop (mkF m 59 #[.val (.ref r0), .val (.ref r1), .val .null, .val (.ref r1), .val (.int (1 : Int32)), .val (.int ((0 : Int32) + (1 : Int32))), .val (.int x_r1_0)] [])) _
    refine XS.goto X230.here hx rfl (pc0 := 59) (pc' := 11) rfl (hb hby d11_59) (by decide) (by decide) ?_
    show Steps p.tables e below (T230.setTop (mkF m 11 #[.val (.ref r0), .val (.ref r1), .val .null, .val (.ref r1), .val (.int (1 : Int32)), .val (.int ((0 : Int32) + (1 : Int32))), .val (.int x_r1_0)] [])) _
    refine XS.iload X230.here hx rfl (hb hby d11_11) rfl ?_
    show Steps p.tables e below (T230.setTop (mkF m 13 #[.val (.ref r0), .val (.ref r1), .val .null, .val (.ref r1), .val (.int (1 : Int32)), .val (.int ((0 : Int32) + (1 : Int32))), .val (.int x_r1_0)] [(.int ((0 : Int32) + (1 : Int32)))])) _
    refine XS.iload X230.here hx rfl (hb hby d11_13) rfl ?_
    show Steps p.tables e below (T230.setTop (mkF m 15 #[.val (.ref r0), .val (.ref r1), .val .null, .val (.ref r1), .val (.int (1 : Int32)), .val (.int ((0 : Int32) + (1 : Int32))), .val (.int x_r1_0)] [(.int (1 : Int32)), (.int ((0 : Int32) + (1 : Int32)))])) _
    refine XS.icmpYes X230.here hx rfl (pc0 := 15) (pc' := 62) rfl (hb hby d11_15) rfl (flt (by decide : ¬ (((0 : Int32) + (1 : Int32)) < (1 : Int32)))).2.1 (by decide) (by decide) ?_
    show Steps p.tables e below (T230.setTop (mkF m 62 #[.val (.ref r0), .val (.ref r1), .val .null, .val (.ref r1), .val (.int (1 : Int32)), .val (.int ((0 : Int32) + (1 : Int32))), .val (.int x_r1_0)] [])) _
    refine XS.aloadN X230.here hx rfl (hb hby d11_62) rfl rfl ?_
    show Steps p.tables e below (T230.setTop (mkF m 63 #[.val (.ref r0), .val (.ref r1), .val .null, .val (.ref r1), .val (.int (1 : Int32)), .val (.int ((0 : Int32) + (1 : Int32))), .val (.int x_r1_0)] [.null])) _
    jvm_step X230.here [X230.here.top, hx, (hb hby d11_63), X230.method', Bd.returns, Value.isRef, FieldType.isReference]
    first | (intro acts; rw [hr _ acts rfl rfl rfl]) | rw [hr _ _ rfl rfl rfl]
    exact Steps.refl _
  · show Q11x1 Z r0 r1 r0_denied r0_denied_words r0_permitted r0_permitted_words k_r0_denied_words k_r0_permitted_words k_r1 x_r1_0 h0 n0 _ T230.heap _
    rw [e230]
    exact ⟨rfl, N230, rfl⟩
theorem pn_10x3 : plainName "com/example/vetd/vetd/Policy$ActionRules" = true := by first | (simp [plainName, overriddenIn]; done) | decide +kernel
theorem ef_10x3 (m : MethodId) (r0 : Addr) (p1 : Int32) : entryFrame m #[(.ref r0), (.int p1)] 2 = mkF m 0 #[.val (.ref r0), .val (.int p1)] [] := by first | (simp [entryFrame, mkF, argsToLocals, Value.category]; done) | rfl
def Q10x3 (Z : State) (r0 : Addr) (p1 : Int32) (r0_lines : Addr) (r0_lines_h0 : Addr) (r0_lines_h0_denied : Addr) (r0_lines_h0_denied_words : Addr) (r0_lines_h0_permitted : Addr) (r0_lines_h0_permitted_words : Addr) (k_r0_lines : ClassId) (x_r0_lines_n : Int32) (x_r0_lines_i0 : Int32) (k_r0_lines_h0_denied_words : ClassId) (k_r0_lines_h0_permitted_words : ClassId) (h0 : Heap) (n0 : Nat) (v : Option Value) (h : Heap) (L : List Loc) : Prop := ∃ (b304 : Addr) (b125_305 : Addr) (b101_111_126_305 : Addr) (k101_111_126_305 : ClassId) (b94_305 : Addr) (b101_111_117_305 : Addr) (k101_111_117_305 : ClassId), v = some (.ref b304) ∧ Fr n0 L ∧ Old Z n0 h ∧ Keep h0 h [r0_lines] ∧ Arh Z h r0_lines k_r0_lines (.object "com/example/vetd/vetd/Policy$Lines") x_r0_lines_n [(p1, (.ref b304)), (x_r0_lines_i0, (.ref r0_lines_h0))] [] .null ∧ n0 ≤ b304 ∧ h0.size ≤ b304 ∧ Exa Z h b304 "com/example/vetd/vetd/Policy$Lines" ∧ Fld Z h b304 "com/example/vetd/vetd/Policy$Lines" "permitted" "Ljava/util/BitSet;" (.ref b94_305) ∧ Fld Z h b304 "com/example/vetd/vetd/Policy$Lines" "denied" "Ljava/util/BitSet;" (.ref b125_305) ∧ n0 ≤ b125_305 ∧ h0.size ≤ b125_305 ∧ Exa Z h b125_305 "java/util/BitSet" ∧ Fld Z h b125_305 "java/util/BitSet" "wordsInUse" "I" (.int (0 : Int32)) ∧ Fld Z h b125_305 "java/util/BitSet" "sizeIsSticky" "Z" (.int (0 : Int32)) ∧ Fld Z h b125_305 "java/util/BitSet" "words" "[J" (.ref b101_111_126_305) ∧ n0 ≤ b101_111_126_305 ∧ h0.size ≤ b101_111_126_305 ∧ Arv Z h b101_111_126_305 k101_111_126_305 .long ((((64 : Int32) - (1 : Int32)) >>> ((6 : Int32) &&& 31)) + (1 : Int32)) [(.long (0 : Int64))] (.long (0 : Int64)) ∧ n0 ≤ b94_305 ∧ h0.size ≤ b94_305 ∧ Exa Z h b94_305 "java/util/BitSet" ∧ Fld Z h b94_305 "java/util/BitSet" "wordsInUse" "I" (.int (0 : Int32)) ∧ Fld Z h b94_305 "java/util/BitSet" "sizeIsSticky" "Z" (.int (0 : Int32)) ∧ Fld Z h b94_305 "java/util/BitSet" "words" "[J" (.ref b101_111_117_305) ∧ n0 ≤ b101_111_117_305 ∧ h0.size ≤ b101_111_117_305 ∧ Arv Z h b101_111_117_305 k101_111_117_305 .long ((((64 : Int32) - (1 : Int32)) >>> ((6 : Int32) &&& 31)) + (1 : Int32)) [(.long (0 : Int64))] (.long (0 : Int64)) ∧ b304 ≠ b125_305 ∧ b304 ≠ b101_111_126_305 ∧ b304 ≠ b94_305 ∧ b304 ≠ b101_111_117_305 ∧ b125_305 ≠ b101_111_126_305 ∧ b125_305 ≠ b94_305 ∧ b125_305 ≠ b101_111_117_305 ∧ b101_111_126_305 ≠ b94_305 ∧ b101_111_126_305 ≠ b101_111_117_305 ∧ b94_305 ≠ b101_111_117_305
set_option maxRecDepth 65536 in
set_option maxHeartbeats 40000000 in
theorem rm10x3 (l : Launch) (Z : State) (a0 : Array Value) (hw : ∀ d ∈ tables_1, d.before a0 Z = true) (ws : List Jvm.Cond) (hS : StF Z) (r0 : Addr) (p1 : Int32) (r0_lines : Addr) (r0_lines_h0 : Addr) (r0_lines_h0_denied : Addr) (r0_lines_h0_denied_words : Addr) (r0_lines_h0_permitted : Addr) (r0_lines_h0_permitted_words : Addr) (k_r0_lines : ClassId) (x_r0_lines_n : Int32) (x_r0_lines_i0 : Int32) (k_r0_lines_h0_denied_words : ClassId) (k_r0_lines_h0_permitted_words : ClassId) (h0 : Heap) (n0 : Nat) (O0 : Old Z n0 h0) (g_r0 : n0 ≤ r0) (g_r0_lines : n0 ≤ r0_lines) (g_r0_lines_h0 : n0 ≤ r0_lines_h0) (g_r0_lines_h0_denied : n0 ≤ r0_lines_h0_denied) (g_r0_lines_h0_denied_words : n0 ≤ r0_lines_h0_denied_words) (g_r0_lines_h0_permitted : n0 ≤ r0_lines_h0_permitted) (g_r0_lines_h0_permitted_words : n0 ≤ r0_lines_h0_permitted_words) (E_r0 : Exa Z h0 r0 "com/example/vetd/vetd/Policy$ActionRules") (F_lines_r0 : Fld Z h0 r0 "com/example/vetd/vetd/Policy$ActionRules" "lines" "[Lcom/example/vetd/vetd/Policy$Lines;" (.ref r0_lines)) (OV_r0_lines : Ovr Z k_r0_lines "com/example/vetd/vetd/Policy$Lines") (V_r0_lines : Arh Z h0 r0_lines k_r0_lines (.object "com/example/vetd/vetd/Policy$Lines") x_r0_lines_n [(x_r0_lines_i0, (.ref r0_lines_h0))] [] .null) (E_r0_lines_h0 : Exa Z h0 r0_lines_h0 "com/example/vetd/vetd/Policy$Lines") (F_denied_r0_lines_h0 : Fld Z h0 r0_lines_h0 "com/example/vetd/vetd/Policy$Lines" "denied" "Ljava/util/BitSet;" (.ref r0_lines_h0_denied)) (F_permitted_r0_lines_h0 : Fld Z h0 r0_lines_h0 "com/example/vetd/vetd/Policy$Lines" "permitted" "Ljava/util/BitSet;" (.ref r0_lines_h0_permitted)) (E_r0_lines_h0_denied : Exa Z h0 r0_lines_h0_denied "java/util/BitSet") (F_sizeIsSticky_r0_lines_h0_denied : Fld Z h0 r0_lines_h0_denied "java/util/BitSet" "sizeIsSticky" "Z" (.int (0 : Int32))) (F_words_r0_lines_h0_denied : Fld Z h0 r0_lines_h0_denied "java/util/BitSet" "words" "[J" (.ref r0_lines_h0_denied_words)) (F_wordsInUse_r0_lines_h0_denied : Fld Z h0 r0_lines_h0_denied "java/util/BitSet" "wordsInUse" "I" (.int (0 : Int32))) (V_r0_lines_h0_denied_words : Arv Z h0 r0_lines_h0_denied_words k_r0_lines_h0_denied_words .long ((((64 : Int32) - (1 : Int32)) >>> ((6 : Int32) &&& 31)) + (1 : Int32)) [(.long (0 : Int64))] (.long (0 : Int64))) (E_r0_lines_h0_permitted : Exa Z h0 r0_lines_h0_permitted "java/util/BitSet") (F_sizeIsSticky_r0_lines_h0_permitted : Fld Z h0 r0_lines_h0_permitted "java/util/BitSet" "sizeIsSticky" "Z" (.int (0 : Int32))) (F_words_r0_lines_h0_permitted : Fld Z h0 r0_lines_h0_permitted "java/util/BitSet" "words" "[J" (.ref r0_lines_h0_permitted_words)) (F_wordsInUse_r0_lines_h0_permitted : Fld Z h0 r0_lines_h0_permitted "java/util/BitSet" "wordsInUse" "I" (.int (0 : Int32))) (V_r0_lines_h0_permitted_words : Arv Z h0 r0_lines_h0_permitted_words k_r0_lines_h0_permitted_words .long ((((64 : Int32) - (1 : Int32)) >>> ((6 : Int32) &&& 31)) + (1 : Int32)) [(.long (0 : Int64))] (.long (0 : Int64))) (ne_r0_r0_lines : r0 ≠ r0_lines) (ne_r0_r0_lines_h0 : r0 ≠ r0_lines_h0) (ne_r0_r0_lines_h0_denied : r0 ≠ r0_lines_h0_denied) (ne_r0_r0_lines_h0_denied_words : r0 ≠ r0_lines_h0_denied_words) (ne_r0_r0_lines_h0_permitted : r0 ≠ r0_lines_h0_permitted) (ne_r0_r0_lines_h0_permitted_words : r0 ≠ r0_lines_h0_permitted_words) (ne_r0_lines_r0_lines_h0 : r0_lines ≠ r0_lines_h0) (ne_r0_lines_r0_lines_h0_denied : r0_lines ≠ r0_lines_h0_denied) (ne_r0_lines_r0_lines_h0_denied_words : r0_lines ≠ r0_lines_h0_denied_words) (ne_r0_lines_r0_lines_h0_permitted : r0_lines ≠ r0_lines_h0_permitted) (ne_r0_lines_r0_lines_h0_permitted_words : r0_lines ≠ r0_lines_h0_permitted_words) (ne_r0_lines_h0_r0_lines_h0_denied : r0_lines_h0 ≠ r0_lines_h0_denied) (ne_r0_lines_h0_r0_lines_h0_denied_words : r0_lines_h0 ≠ r0_lines_h0_denied_words) (ne_r0_lines_h0_r0_lines_h0_permitted : r0_lines_h0 ≠ r0_lines_h0_permitted) (ne_r0_lines_h0_r0_lines_h0_permitted_words : r0_lines_h0 ≠ r0_lines_h0_permitted_words) (ne_r0_lines_h0_denied_r0_lines_h0_denied_words : r0_lines_h0_denied ≠ r0_lines_h0_denied_words) (ne_r0_lines_h0_denied_r0_lines_h0_permitted : r0_lines_h0_denied ≠ r0_lines_h0_permitted) (ne_r0_lines_h0_denied_r0_lines_h0_permitted_words : r0_lines_h0_denied ≠ r0_lines_h0_permitted_words) (ne_r0_lines_h0_denied_words_r0_lines_h0_permitted : r0_lines_h0_denied_words ≠ r0_lines_h0_permitted) (ne_r0_lines_h0_denied_words_r0_lines_h0_permitted_words : r0_lines_h0_denied_words ≠ r0_lines_h0_permitted_words) (ne_r0_lines_h0_permitted_r0_lines_h0_permitted_words : r0_lines_h0_permitted ≠ r0_lines_h0_permitted_words) (as0 : ¬ (p1 = x_r0_lines_i0)) (as1 : (p1 < x_r0_lines_n)) (as2 : ¬ (p1 < (0 : Int32))) :
    MetFree l Y8 (head1 (Jvm.Cond.code Y8 prog_19_method_2_code 2 (some (.object "com/example/vetd/vetd/Policy$Lines")) :: ws) ({ frames := 4, cells := 5, slots := 10, locals := 55 } : Room)) (fun a U => a = #[(.ref r0), (.int p1)] ∧ Z.Warmed39 U.vm ∧ U.heap = h0) (fun _ _ _ _ _ => True) (fun _ U o U' => ∃ v L, o = .returned v ∧ Q10x3 Z r0 p1 r0_lines r0_lines_h0 r0_lines_h0_denied r0_lines_h0_denied_words r0_lines_h0_permitted r0_lines_h0_permitted_words k_r0_lines x_r0_lines_n x_r0_lines_i0 k_r0_lines_h0_denied_words k_r0_lines_h0_permitted_words h0 n0 v U'.heap L ∧ FrameEnd U o U' L ({ frames := 4, cells := 5, slots := 10, locals := 55 } : Room).cells ({ frames := 4, cells := 5, slots := 10, locals := 55 } : Room).slots) := by
  refine MetFree.of_bodySF (plainFor_of_name pn_10x3) hisR ?_
  intro p e s m args below meth c s₁ Bd hml0 hP hK
  obtain ⟨rfl, hZ, hh⟩ := hP
  have hx := Bd.exec
  have hby := Bd.bytes
  have hml : c.maxLocals = 2 := hml0
  have hown : s.vm.findClass "com/example/vetd/vetd/Policy$ActionRules" = some m.cls := findClass_of_methodNamed Bd.named
  have hnm := (name_of_methodNamed Bd.named Bd.method).1
  have X0 : Stand p l e ({ frames := 4, cells := 5, slots := 10, locals := 55 } : Room) s m #[(.ref r0), (.int p1)] below meth c s₁ [] 0 0 := Stand.of_body Bd
  have e0 : s₁.heap = h0 := by rw [← hh, Bd.state]; rfl
  have N0 := Fr.nil n0
  have hS0 := hS
  have S_1 := hS
  have pre0 : ∀ t, Steps p.tables e below (s₁.setTop (mkF m 0 #[.val (.ref r0), .val (.int p1)] [])) t → Steps p.tables e below (s₁.setTop (entryFrame m #[(.ref r0), (.int p1)] 2)) t := fun t k => castTop (ef_10x3 m r0 p1) k
  obtain ⟨T301, X301, e301, st301⟩ := getF X0 hx hZ hown (host := "") (Or.inl (hw _ (tk 45 rfl))) Via.refl e0 F_lines_r0 (g := (mkF m 1 #[.val (.ref r0), .val (.int p1)] [(.ref r0)])) rfl rfl (hb hby d10_1)
  obtain ⟨cl302, Ar302, qa302, Sa302, Ma302, Ha302, Ga302⟩ := id V_r0_lines
  have hin302 : ¬ (p1 < 0 ∨ cl302.slots.size ≤ (p1).toNatClampNeg) := by exact inb_of Sa302 ⟨as2, as1⟩
  have hat302 : cl302.slots[(p1).toNatClampNeg]? = some .null := atH Ha302 hin302 (getH_miss as2 as0 rfl)
  obtain ⟨T303, X303, e303, st303⟩ := getF X301 hx hZ hown (host := "") (Or.inl (hw _ (tk 45 rfl))) Via.refl e301 F_lines_r0 (g := (mkF m 10 #[.val (.ref r0), .val (.int p1)] [(.ref r0)])) rfl rfl (hb hby d10_10)
  obtain ⟨T304, h304, X304, e304, E304, A304, D304, -, st304⟩ := newO X303 hx hZ hown (hw _ (tk 43 rfl)) (hw _ (tk 48 rfl)) (hw _ (tk 49 rfl)) e303 (g := (mkF m 14 #[.val (.ref r0), .val (.int p1)] [(.int p1), (.ref r0_lines)])) rfl (hb hby d10_14) (by decide) (by decide)
  obtain ⟨b304, g304⟩ : ∃ z, z = h0.size := ⟨_, rfl⟩
  rw [← g304] at A304 D304 st304
  have g_b304 : n0 ≤ b304 := Nat.le_trans (own_old O0) (Nat.le_of_eq g304.symm)
  have sz_b304 : h0.size ≤ b304 := Nat.le_trans (Keep.refl h0 [r0_lines]).1 (Nat.le_of_eq g304.symm)
  have ne_r0_b304 : r0 ≠ b304 := Nat.ne_of_lt (Nat.lt_of_lt_of_le E_r0.lt (Nat.le_of_eq g304.symm))
  have ne_r0_lines_b304 : r0_lines ≠ b304 := Nat.ne_of_lt (Nat.lt_of_lt_of_le V_r0_lines.lt (Nat.le_of_eq g304.symm))
  have ne_r0_lines_h0_b304 : r0_lines_h0 ≠ b304 := Nat.ne_of_lt (Nat.lt_of_lt_of_le E_r0_lines_h0.lt (Nat.le_of_eq g304.symm))
  have ne_r0_lines_h0_denied_b304 : r0_lines_h0_denied ≠ b304 := Nat.ne_of_lt (Nat.lt_of_lt_of_le E_r0_lines_h0_denied.lt (Nat.le_of_eq g304.symm))
  have ne_r0_lines_h0_denied_words_b304 : r0_lines_h0_denied_words ≠ b304 := Nat.ne_of_lt (Nat.lt_of_lt_of_le V_r0_lines_h0_denied_words.lt (Nat.le_of_eq g304.symm))
  have ne_r0_lines_h0_permitted_b304 : r0_lines_h0_permitted ≠ b304 := Nat.ne_of_lt (Nat.lt_of_lt_of_le E_r0_lines_h0_permitted.lt (Nat.le_of_eq g304.symm))
  have ne_r0_lines_h0_permitted_words_b304 : r0_lines_h0_permitted_words ≠ b304 := Nat.ne_of_lt (Nat.lt_of_lt_of_le V_r0_lines_h0_permitted_words.lt (Nat.le_of_eq g304.symm))
  have O304 : Old Z n0 h304 := O0.ext E304
  have K304 : Keep h0 h304 [r0_lines] := (Keep.refl h0 [r0_lines]).ext E304
  have F_permitted_b304 : Fld Z h304 b304 "com/example/vetd/vetd/Policy$Lines" "permitted" "Ljava/util/BitSet;" .null := D304 (Or.inr (hw _ (tk 77 rfl))) (ty := (.object "java/util/BitSet")) (by decide)
  have F_denied_b304 : Fld Z h304 b304 "com/example/vetd/vetd/Policy$Lines" "denied" "Ljava/util/BitSet;" .null := D304 (Or.inr (hw _ (tk 79 rfl))) (ty := (.object "java/util/BitSet")) (by decide)
  have c306 := (E_r0.ext E304)
  have c307 := (V_r0_lines.ext E304)
  have c308 := (E_r0_lines_h0.ext E304)
  have c309 := (E_r0_lines_h0_denied.ext E304)
  have c310 := (V_r0_lines_h0_denied_words.ext E304)
  have c311 := (E_r0_lines_h0_permitted.ext E304)
  have c312 := (V_r0_lines_h0_permitted_words.ext E304)
  obtain ⟨_, _, ⟨T305, L305, k305, n305⟩, -, X305, ⟨Lc305, hQ305, l305, y305, z305⟩, st305⟩ := X304.specialBack hx (y := Y7) rfl hown (mvT hZ (hw _ (tk 104 rfl))) (mvT hZ (hw _ (tk 51 rfl))) (mvT hZ (hw _ (tk 52 rfl))) (by decide) (backOf (W := 3) (rm6x1 l Z a0 hw [] hS0 b304 h304 n0 O304 g_b304 A304 F_denied_b304 F_permitted_b304) hZ (hw _ (tk 52 rfl)) (hw _ (tk 49 rfl)) (by decide) (by decide)) (g := (mkF m 18 #[.val (.ref r0), .val (.int p1)] [(.ref b304), (.ref b304), (.int p1), (.ref r0_lines)])) rfl (by rw [hml]; rfl) (Steps.refl _) (a := b304) (argsL := []) (rest := [(.ref b304), (.int p1), (.ref r0_lines)]) (lenOf pd_0 rfl) rfl (by show 2 * 0 + _ ≤ _; exact Nat.le_of_eq rfl) (hb hby d10_18) (fun _ _ => ⟨rfl, e304, (by decide : 1 + 4 ≤ _), (by decide : 2 + 8 ≤ _)⟩)
  dsimp only [Pt.U, Pt.locs, Pt.cells, Pt.slots] at X305 l305 y305 z305 st305 hQ305
  subst l305 y305 z305
  obtain ⟨b94_305, b101_111_117_305, k101_111_117_305, b125_305, b101_111_126_305, k101_111_126_305, rv305, N305q, O305, K305c, Fe305_0, Fe305_1, Fx305_0, Fx305_1, Fx305_2, Fx305_3, Fx305_4, Fx305_5, Fx305_6, Fx305_7, Fx305_8, Fx305_9, Fx305_10, Fx305_11, Fx305_12, Fx305_13, Fx305_14, Fx305_15, Fx305_16, Fx305_17, Fx305_18, Fx305_19, Fx305_20, Fx305_21, Fx305_22, Fx305_23⟩ := hQ305
  subst rv305
  have N305 := Fr.app N0 N305q
  have K305 : Keep h0 T305.heap [r0_lines] := K304.trans K305c (allS (Or.inr sz_b304) all0)
  have g_b94_305 := Fx305_0
  have sz_b94_305 : h0.size ≤ b94_305 := Nat.le_trans K304.1 Fx305_1
  have ne_r0_b94_305 : r0 ≠ b94_305 := Nat.ne_of_lt (Nat.lt_of_lt_of_le c306.lt Fx305_1)
  have ne_r0_lines_b94_305 : r0_lines ≠ b94_305 := Nat.ne_of_lt (Nat.lt_of_lt_of_le c307.lt Fx305_1)
  have ne_r0_lines_h0_b94_305 : r0_lines_h0 ≠ b94_305 := Nat.ne_of_lt (Nat.lt_of_lt_of_le c308.lt Fx305_1)
  have ne_r0_lines_h0_denied_b94_305 : r0_lines_h0_denied ≠ b94_305 := Nat.ne_of_lt (Nat.lt_of_lt_of_le c309.lt Fx305_1)
  have ne_r0_lines_h0_denied_words_b94_305 : r0_lines_h0_denied_words ≠ b94_305 := Nat.ne_of_lt (Nat.lt_of_lt_of_le c310.lt Fx305_1)
  have ne_r0_lines_h0_permitted_b94_305 : r0_lines_h0_permitted ≠ b94_305 := Nat.ne_of_lt (Nat.lt_of_lt_of_le c311.lt Fx305_1)
  have ne_r0_lines_h0_permitted_words_b94_305 : r0_lines_h0_permitted_words ≠ b94_305 := Nat.ne_of_lt (Nat.lt_of_lt_of_le c312.lt Fx305_1)
  have ne_b304_b94_305 : b304 ≠ b94_305 := Nat.ne_of_lt (Nat.lt_of_lt_of_le A304.lt Fx305_1)
  have g_b101_111_117_305 := Fx305_6
  have sz_b101_111_117_305 : h0.size ≤ b101_111_117_305 := Nat.le_trans K304.1 Fx305_7
  have ne_r0_b101_111_117_305 : r0 ≠ b101_111_117_305 := Nat.ne_of_lt (Nat.lt_of_lt_of_le c306.lt Fx305_7)
  have ne_r0_lines_b101_111_117_305 : r0_lines ≠ b101_111_117_305 := Nat.ne_of_lt (Nat.lt_of_lt_of_le c307.lt Fx305_7)
  have ne_r0_lines_h0_b101_111_117_305 : r0_lines_h0 ≠ b101_111_117_305 := Nat.ne_of_lt (Nat.lt_of_lt_of_le c308.lt Fx305_7)
  have ne_r0_lines_h0_denied_b101_111_117_305 : r0_lines_h0_denied ≠ b101_111_117_305 := Nat.ne_of_lt (Nat.lt_of_lt_of_le c309.lt Fx305_7)
  have ne_r0_lines_h0_denied_words_b101_111_117_305 : r0_lines_h0_denied_words ≠ b101_111_117_305 := Nat.ne_of_lt (Nat.lt_of_lt_of_le c310.lt Fx305_7)
  have ne_r0_lines_h0_permitted_b101_111_117_305 : r0_lines_h0_permitted ≠ b101_111_117_305 := Nat.ne_of_lt (Nat.lt_of_lt_of_le c311.lt Fx305_7)
  have ne_r0_lines_h0_permitted_words_b101_111_117_305 : r0_lines_h0_permitted_words ≠ b101_111_117_305 := Nat.ne_of_lt (Nat.lt_of_lt_of_le c312.lt Fx305_7)
  have ne_b304_b101_111_117_305 : b304 ≠ b101_111_117_305 := Nat.ne_of_lt (Nat.lt_of_lt_of_le A304.lt Fx305_7)
  have g_b125_305 := Fx305_9
  have sz_b125_305 : h0.size ≤ b125_305 := Nat.le_trans K304.1 Fx305_10
  have ne_r0_b125_305 : r0 ≠ b125_305 := Nat.ne_of_lt (Nat.lt_of_lt_of_le c306.lt Fx305_10)
  have ne_r0_lines_b125_305 : r0_lines ≠ b125_305 := Nat.ne_of_lt (Nat.lt_of_lt_of_le c307.lt Fx305_10)
  have ne_r0_lines_h0_b125_305 : r0_lines_h0 ≠ b125_305 := Nat.ne_of_lt (Nat.lt_of_lt_of_le c308.lt Fx305_10)
  have ne_r0_lines_h0_denied_b125_305 : r0_lines_h0_denied ≠ b125_305 := Nat.ne_of_lt (Nat.lt_of_lt_of_le c309.lt Fx305_10)
  have ne_r0_lines_h0_denied_words_b125_305 : r0_lines_h0_denied_words ≠ b125_305 := Nat.ne_of_lt (Nat.lt_of_lt_of_le c310.lt Fx305_10)
  have ne_r0_lines_h0_permitted_b125_305 : r0_lines_h0_permitted ≠ b125_305 := Nat.ne_of_lt (Nat.lt_of_lt_of_le c311.lt Fx305_10)
  have ne_r0_lines_h0_permitted_words_b125_305 : r0_lines_h0_permitted_words ≠ b125_305 := Nat.ne_of_lt (Nat.lt_of_lt_of_le c312.lt Fx305_10)
  have ne_b304_b125_305 : b304 ≠ b125_305 := Nat.ne_of_lt (Nat.lt_of_lt_of_le A304.lt Fx305_10)
  have g_b101_111_126_305 := Fx305_15
  have sz_b101_111_126_305 : h0.size ≤ b101_111_126_305 := Nat.le_trans K304.1 Fx305_16
  have ne_r0_b101_111_126_305 : r0 ≠ b101_111_126_305 := Nat.ne_of_lt (Nat.lt_of_lt_of_le c306.lt Fx305_16)
  have ne_r0_lines_b101_111_126_305 : r0_lines ≠ b101_111_126_305 := Nat.ne_of_lt (Nat.lt_of_lt_of_le c307.lt Fx305_16)
  have ne_r0_lines_h0_b101_111_126_305 : r0_lines_h0 ≠ b101_111_126_305 := Nat.ne_of_lt (Nat.lt_of_lt_of_le c308.lt Fx305_16)
  have ne_r0_lines_h0_denied_b101_111_126_305 : r0_lines_h0_denied ≠ b101_111_126_305 := Nat.ne_of_lt (Nat.lt_of_lt_of_le c309.lt Fx305_16)
  have ne_r0_lines_h0_denied_words_b101_111_126_305 : r0_lines_h0_denied_words ≠ b101_111_126_305 := Nat.ne_of_lt (Nat.lt_of_lt_of_le c310.lt Fx305_16)
  have ne_r0_lines_h0_permitted_b101_111_126_305 : r0_lines_h0_permitted ≠ b101_111_126_305 := Nat.ne_of_lt (Nat.lt_of_lt_of_le c311.lt Fx305_16)
  have ne_r0_lines_h0_permitted_words_b101_111_126_305 : r0_lines_h0_permitted_words ≠ b101_111_126_305 := Nat.ne_of_lt (Nat.lt_of_lt_of_le c312.lt Fx305_16)
  have ne_b304_b101_111_126_305 : b304 ≠ b101_111_126_305 := Nat.ne_of_lt (Nat.lt_of_lt_of_le A304.lt Fx305_16)
  have c313 := (c307.keep K305c (ninS ne_r0_lines_b304 nin0))
  obtain ⟨cl314, Ar314, qa314, Sa314, Ma314, Ha314, Ga314⟩ := id c313
  have hin314 : ¬ (p1 < 0 ∨ cl314.slots.size ≤ (p1).toNatClampNeg) := by exact inb_of Sa314 ⟨as2, as1⟩
  have c315 := (A304.keep K305c)
  obtain ⟨T316, h316, X316, e316, W316, st316⟩ := stR X305 hx hZ rfl Ar314 (j := p1) hin314 rfl (Sto.ofV Ar314 qa314 OV_r0_lines (Ins.self c315)) (g := (mkF m 21 #[.val (.ref r0), .val (.int p1)] [(.ref b304), (.int p1), (.ref r0_lines)])) rfl rfl (hb hby d10_21)
  have V_r0_lines_316 : Arh Z h316 r0_lines k_r0_lines (.object "com/example/vetd/vetd/Policy$Lines") x_r0_lines_n [(p1, (.ref b304)), (x_r0_lines_i0, (.ref r0_lines_h0))] [] .null := Arh.push Ar314 qa314 Sa314 Ma314 Ha314 Ga314 rfl W316 hin314
  have O316 : Old Z n0 h316 := O305.wr W316 g_r0_lines
  have N316 := Fr.snoc X316 N305 g_r0_lines
  have K316 : Keep h0 h316 [r0_lines] := K305.wr W316 (Or.inl (List.mem_of_getElem? (i := 0) rfl))
  have c317 := (((F_lines_r0.ext E304).keep K305c (ninS ne_r0_b304 nin0)).other W316 (Or.inl ne_r0_r0_lines))
  obtain ⟨T318, X318, e318, st318⟩ := getF X316 hx hZ hown (host := "") (Or.inl (hw _ (tk 45 rfl))) Via.refl e316 c317 (g := (mkF m 23 #[.val (.ref r0), .val (.int p1)] [(.ref r0)])) rfl rfl (hb hby d10_23)
  obtain ⟨cl319, Ar319, qa319, Sa319, Ma319, Ha319, Ga319⟩ := id V_r0_lines_316
  have hin319 : ¬ (p1 < 0 ∨ cl319.slots.size ≤ (p1).toNatClampNeg) := by exact inb_of Sa319 ⟨as2, as1⟩
  have hat319 : cl319.slots[(p1).toNatClampNeg]? = some (.ref b304) := atH Ha319 hin319 (getH_hit as2 rfl)
  obtain ⟨fs, hr, hrun, hended, hW, hsame⟩ := X318.leave (v := some (.ref b304)) (fun h => by rw [Bd.returns] at h; cases h)
  have c320 := (c315.wr W316)
  have c321 := (Fe305_1.other W316 (Or.inl (Ne.symm ne_r0_lines_b304)))
  have c322 := (Fe305_0.other W316 (Or.inl (Ne.symm ne_r0_lines_b304)))
  have c323 := (Fx305_11.wr W316)
  have c324 := (Fx305_12.other W316 (Or.inl (Ne.symm ne_r0_lines_b125_305)))
  have c325 := (Fx305_13.other W316 (Or.inl (Ne.symm ne_r0_lines_b125_305)))
  have c326 := (Fx305_14.other W316 (Or.inl (Ne.symm ne_r0_lines_b125_305)))
  have c327 := (Fx305_17.other W316 (Ne.symm ne_r0_lines_b101_111_126_305))
  have c328 := (Fx305_2.wr W316)
  have c329 := (Fx305_3.other W316 (Or.inl (Ne.symm ne_r0_lines_b94_305)))
  have c330 := (Fx305_4.other W316 (Or.inl (Ne.symm ne_r0_lines_b94_305)))
  have c331 := (Fx305_5.other W316 (Or.inl (Ne.symm ne_r0_lines_b94_305)))
  have c332 := (Fx305_8.other W316 (Ne.symm ne_r0_lines_b101_111_117_305))
  refine ⟨_, _, pre0 _ ?_, hrun, hended, _, _, rfl, ?_, ⟨_, rfl⟩, hW, hsame.mono (by decide) (by decide)⟩
  · show Steps p.tables e below (s₁.setTop (mkF m 0 #[.val (.ref r0), .val (.int p1)] [])) _
    refine XS.aloadN X0.here hx rfl (hb hby d10_0) rfl rfl ?_
    show Steps p.tables e below (s₁.setTop (mkF m 1 #[.val (.ref r0), .val (.int p1)] [(.ref r0)])) _
    refine st301 _ ?_
    show Steps p.tables e below (T301.setTop (mkF m 4 #[.val (.ref r0), .val (.int p1)] [(.ref r0_lines)])) _
    refine XS.iloadN X301.here hx rfl (hb hby d10_4) rfl ?_
    show Steps p.tables e below (T301.setTop (mkF m 5 #[.val (.ref r0), .val (.int p1)] [(.int p1), (.ref r0_lines)])) _
    refine X301.aaload hx (j := p1) (v := .null) (by rw [e301]; exact Ar302.1) (State.isArrayOf_alike hZ.alike Ar302.2.1) rfl Ar302.2.2 hin302 hat302 (g := (mkF m 5 #[.val (.ref r0), .val (.int p1)] [(.int p1), (.ref r0_lines)])) rfl rfl (hb hby d10_5) _ ?_
    show Steps p.tables e below (T301.setTop (mkF m 6 #[.val (.ref r0), .val (.int p1)] [.null])) _
    refine XS.ifnonnullNo X301.here hx rfl (hb hby d10_6) rfl ?_
    show Steps p.tables e below (T301.setTop (mkF m 9 #[.val (.ref r0), .val (.int p1)] [])) _
    refine XS.aloadN X301.here hx rfl (hb hby d10_9) rfl rfl ?_
    show Steps p.tables e below (T301.setTop (mkF m 10 #[.val (.ref r0), .val (.int p1)] [(.ref r0)])) _
    refine st303 _ ?_
    show Steps p.tables e below (T303.setTop (mkF m 13 #[.val (.ref r0), .val (.int p1)] [(.ref r0_lines)])) _
    refine XS.iloadN X303.here hx rfl (hb hby d10_13) rfl ?_
    show Steps p.tables e below (T303.setTop (mkF m 14 #[.val (.ref r0), .val (.int p1)] [(.int p1), (.ref r0_lines)])) _
    refine st304 _ ?_
    show Steps p.tables e below (T304.setTop (mkF m 17 #[.val (.ref r0), .val (.int p1)] [(.ref b304), (.int p1), (.ref r0_lines)])) _
    refine XS.dup X304.here hx rfl (hb hby d10_17) rfl rfl ?_
    show Steps p.tables e below (T304.setTop (mkF m 18 #[.val (.ref r0), .val (.int p1)] [(.ref b304), (.ref b304), (.int p1), (.ref r0_lines)])) _
    refine st305.trans ?_
    show Steps p.tables e below (T305.setTop (mkF m 21 #[.val (.ref r0), .val (.int p1)] [(.ref b304), (.int p1), (.ref r0_lines)])) _
    refine st316 _ ?_
    show Steps p.tables e below (T316.setTop (mkF m 22 #[.val (.ref r0), .val (.int p1)] [])) _
    refine XS.aloadN X316.here hx rfl (hb hby d10_22) rfl rfl ?_
    show Steps p.tables e below (T316.setTop (mkF m 23 #[.val (.ref r0), .val (.int p1)] [(.ref r0)])) _
    refine st318 _ ?_
    show Steps p.tables e below (T318.setTop (mkF m 26 #[.val (.ref r0), .val (.int p1)] [(.ref r0_lines)])) _
    refine XS.iloadN X318.here hx rfl (hb hby d10_26) rfl ?_
    show Steps p.tables e below (T318.setTop (mkF m 27 #[.val (.ref r0), .val (.int p1)] [(.int p1), (.ref r0_lines)])) _
    refine X318.aaload hx (j := p1) (v := (.ref b304)) (by rw [e318]; exact Ar319.1) (State.isArrayOf_alike hZ.alike Ar319.2.1) rfl Ar319.2.2 hin319 hat319 (g := (mkF m 27 #[.val (.ref r0), .val (.int p1)] [(.int p1), (.ref r0_lines)])) rfl rfl (hb hby d10_27) _ ?_
    show Steps p.tables e below (T318.setTop (mkF m 28 #[.val (.ref r0), .val (.int p1)] [(.ref b304)])) _
    jvm_step X318.here [X318.here.top, hx, (hb hby d10_28), X318.method', Bd.returns, Value.isRef, FieldType.isReference]
    first | (intro acts; rw [hr _ acts rfl rfl rfl]) | rw [hr _ _ rfl rfl rfl]
    exact Steps.refl _
  · show Q10x3 Z r0 p1 r0_lines r0_lines_h0 r0_lines_h0_denied r0_lines_h0_denied_words r0_lines_h0_permitted r0_lines_h0_permitted_words k_r0_lines x_r0_lines_n x_r0_lines_i0 k_r0_lines_h0_denied_words k_r0_lines_h0_permitted_words h0 n0 _ T318.heap _
    rw [e318]
    exact ⟨b304, b125_305, b101_111_126_305, k101_111_126_305, b94_305, b101_111_117_305, k101_111_117_305, rfl, N316, O316, K316, V_r0_lines_316, g_b304, sz_b304, c320, c321, c322, g_b125_305, sz_b125_305, c323, c324, c325, c326, g_b101_111_126_305, sz_b101_111_126_305, c327, g_b94_305, sz_b94_305, c328, c329, c330, c331, g_b101_111_117_305, sz_b101_111_117_305, c332, ne_b304_b125_305, ne_b304_b101_111_126_305, ne_b304_b94_305, ne_b304_b101_111_117_305, Fx305_23, (Ne.symm Fx305_19), (Ne.symm Fx305_21), (Ne.symm Fx305_20), (Ne.symm Fx305_22), Fx305_18⟩
theorem pn_0 : plainName "com/example/vetd/vetd/ActionRulesLinesOfPinLaw" = true := by first | (simp [plainName, overriddenIn]; done) | decide +kernel
theorem ef_0 (m : MethodId) (p0 : Int32) (p1 : Int32) (p2 : Int32) (p3 : Int32) : entryFrame m #[(.int p0), (.int p1), (.int p2), (.int p3)] maxLocals = mkF m 0 #[.val (.int p0), .val (.int p1), .val (.int p2), .val (.int p3), .unset, .unset, .unset, .unset, .unset, .unset, .unset, .unset, .unset, .unset, .unset] [] := by first | (simp [entryFrame, mkF, argsToLocals, Value.category, maxLocals]; done) | rfl
def sp0 (p0 : Int32) (p1 : Int32) (p2 : Int32) (p3 : Int32) : Int32 := (if (p3 &&& (1 : Int32)) = (0 : Int32) then (if ((p2 &&& (2147483647 : Int32)) % ((p0 &&& (7 : Int32)) + (1 : Int32))) = ((p1 &&& (2147483647 : Int32)) % ((p0 &&& (7 : Int32)) + (1 : Int32))) then (1 : Int32) else (1 : Int32)) else (if ((p2 &&& (2147483647 : Int32)) % ((p0 &&& (7 : Int32)) + (1 : Int32))) = ((p1 &&& (2147483647 : Int32)) % ((p0 &&& (7 : Int32)) + (1 : Int32))) then (1 : Int32) else (1 : Int32)))
def Q0 (Z : State) (p0 : Int32) (p1 : Int32) (p2 : Int32) (p3 : Int32) (h0 : Heap) (n0 : Nat) (v : Option Value) (h : Heap) (L : List Loc) : Prop := v = some (.int (sp0 p0 p1 p2 p3)) ∧ Fr n0 L ∧ True
set_option maxRecDepth 65536 in
set_option maxHeartbeats 40000000 in
theorem rm0 (l : Launch) (Z : State) (a0 : Array Value) (hw : ∀ d ∈ tables_1, d.before a0 Z = true) (ws : List Jvm.Cond) (hS : StF Z) (p0 : Int32) (p1 : Int32) (p2 : Int32) (p3 : Int32) (h0 : Heap) (n0 : Nat) (O0 : Old Z n0 h0) :
    MetFree l x (head1 (Jvm.Cond.code x code maxLocals ret :: ws) room_1) (fun a U => a = #[(.int p0), (.int p1), (.int p2), (.int p3)] ∧ Z.Warmed39 U.vm ∧ U.heap = h0) (fun _ _ _ _ _ => True) (fun _ U o U' => ∃ v L, o = .returned v ∧ Q0 Z p0 p1 p2 p3 h0 n0 v U'.heap L ∧ FrameEnd U o U' L room_1.cells room_1.slots) := by
  refine MetFree.of_bodySF (plainFor_of_name pn_0) hisR ?_
  intro p e s m args below meth c s₁ Bd hml0 hP hK
  obtain ⟨rfl, hZ, hh⟩ := hP
  have hx := Bd.exec
  have hby := Bd.bytes
  have hml : c.maxLocals = 15 := hml0
  have hown : s.vm.findClass "com/example/vetd/vetd/ActionRulesLinesOfPinLaw" = some m.cls := findClass_of_methodNamed Bd.named
  have hnm := (name_of_methodNamed Bd.named Bd.method).1
  have X0 : Stand p l e room_1 s m #[(.int p0), (.int p1), (.int p2), (.int p3)] below meth c s₁ [] 0 0 := Stand.of_body Bd
  have e0 : s₁.heap = h0 := by rw [← hh, Bd.state]; rfl
  have N0 := Fr.nil n0
  have hS0 := hS
  have S_1 := hS
  have pre0 : ∀ t, Steps p.tables e below (s₁.setTop (mkF m 0 #[.val (.int p0), .val (.int p1), .val (.int p2), .val (.int p3), .unset, .unset, .unset, .unset, .unset, .unset, .unset, .unset, .unset, .unset, .unset] [])) t → Steps p.tables e below (s₁.setTop (entryFrame m #[(.int p0), (.int p1), (.int p2), (.int p3)] maxLocals)) t := fun t k => castTop (ef_0 m p0 p1 p2 p3) k
  have fk0 : ¬ (((p0 &&& (7 : Int32)) + (1 : Int32)) = (0 : Int32)) := own_n0 p0
  have fk1 : ¬ (((p0 &&& (7 : Int32)) + (1 : Int32)) < (0 : Int32)) := own_nn p0
  have fk2 : ¬ (((p1 &&& (2147483647 : Int32)) % ((p0 &&& (7 : Int32)) + (1 : Int32))) < (0 : Int32)) := own_r0 p1 p0
  have fk3 : ¬ (((p2 &&& (2147483647 : Int32)) % ((p0 &&& (7 : Int32)) + (1 : Int32))) < (0 : Int32)) := own_r0 p2 p0
  have fk4 : (((p1 &&& (2147483647 : Int32)) % ((p0 &&& (7 : Int32)) + (1 : Int32))) < ((p0 &&& (7 : Int32)) + (1 : Int32))) := own_rl p1 p0
  have fk5 : (((p2 &&& (2147483647 : Int32)) % ((p0 &&& (7 : Int32)) + (1 : Int32))) < ((p0 &&& (7 : Int32)) + (1 : Int32))) := own_rl p2 p0
  have pre1 : ∀ t, Steps p.tables e below (s₁.setTop (mkF m 38 #[.val (.int p0), .val (.int p1), .val (.int p2), .val (.int p3), .val (.int ((p0 &&& (7 : Int32)) + (1 : Int32))), .val (.int ((p1 &&& (2147483647 : Int32)) % ((p0 &&& (7 : Int32)) + (1 : Int32)))), .val (.int ((p2 &&& (2147483647 : Int32)) % ((p0 &&& (7 : Int32)) + (1 : Int32)))), .val (.int (((p3.toUInt32 >>> ((1 : Int32) &&& 31).toUInt32).toInt32) &&& (255 : Int32))), .unset, .unset, .unset, .unset, .unset, .unset, .unset] [(.int (p3 &&& (1 : Int32)))])) t → Steps p.tables e below (s₁.setTop (entryFrame m #[(.int p0), (.int p1), (.int p2), (.int p3)] maxLocals)) t := fun t kt => by
    refine pre0 t ?_
    show Steps p.tables e below (s₁.setTop (mkF m 0 #[.val (.int p0), .val (.int p1), .val (.int p2), .val (.int p3), .unset, .unset, .unset, .unset, .unset, .unset, .unset, .unset, .unset, .unset, .unset] [])) _
    refine XS.iloadN X0.here hx rfl (hb hby at_0) rfl ?_
    show Steps p.tables e below (s₁.setTop (mkF m 1 #[.val (.int p0), .val (.int p1), .val (.int p2), .val (.int p3), .unset, .unset, .unset, .unset, .unset, .unset, .unset, .unset, .unset, .unset, .unset] [(.int p0)])) _
    refine XS.bipush X0.here hx rfl (hb hby at_1) ?_
    show Steps p.tables e below (s₁.setTop (mkF m 3 #[.val (.int p0), .val (.int p1), .val (.int p2), .val (.int p3), .unset, .unset, .unset, .unset, .unset, .unset, .unset, .unset, .unset, .unset, .unset] [(.int (7 : Int32)), (.int p0)])) _
    refine XS.iand X0.here hx rfl (hb hby at_3) rfl ?_
    show Steps p.tables e below (s₁.setTop (mkF m 4 #[.val (.int p0), .val (.int p1), .val (.int p2), .val (.int p3), .unset, .unset, .unset, .unset, .unset, .unset, .unset, .unset, .unset, .unset, .unset] [(.int (p0 &&& (7 : Int32)))])) _
    refine XS.iconst X0.here hx rfl (hb hby at_4) ?_
    show Steps p.tables e below (s₁.setTop (mkF m 5 #[.val (.int p0), .val (.int p1), .val (.int p2), .val (.int p3), .unset, .unset, .unset, .unset, .unset, .unset, .unset, .unset, .unset, .unset, .unset] [(.int (1 : Int32)), (.int (p0 &&& (7 : Int32)))])) _
    refine XS.iadd X0.here hx rfl (hb hby at_5) rfl ?_
    show Steps p.tables e below (s₁.setTop (mkF m 6 #[.val (.int p0), .val (.int p1), .val (.int p2), .val (.int p3), .unset, .unset, .unset, .unset, .unset, .unset, .unset, .unset, .unset, .unset, .unset] [(.int ((p0 &&& (7 : Int32)) + (1 : Int32)))])) _
    refine XS.istore X0.here hx rfl (hb hby at_6) rfl (l' := #[.val (.int p0), .val (.int p1), .val (.int p2), .val (.int p3), .val (.int ((p0 &&& (7 : Int32)) + (1 : Int32))), .unset, .unset, .unset, .unset, .unset, .unset, .unset, .unset, .unset, .unset]) rfl ?_
    show Steps p.tables e below (s₁.setTop (mkF m 8 #[.val (.int p0), .val (.int p1), .val (.int p2), .val (.int p3), .val (.int ((p0 &&& (7 : Int32)) + (1 : Int32))), .unset, .unset, .unset, .unset, .unset, .unset, .unset, .unset, .unset, .unset] [])) _
    refine XS.iloadN X0.here hx rfl (hb hby at_8) rfl ?_
    show Steps p.tables e below (s₁.setTop (mkF m 9 #[.val (.int p0), .val (.int p1), .val (.int p2), .val (.int p3), .val (.int ((p0 &&& (7 : Int32)) + (1 : Int32))), .unset, .unset, .unset, .unset, .unset, .unset, .unset, .unset, .unset, .unset] [(.int p1)])) _
    refine X0.ldcInt hx hown (mvT hZ (hw _ (tk 0 rfl))) (g := (mkF m 9 #[.val (.int p0), .val (.int p1), .val (.int p2), .val (.int p3), .val (.int ((p0 &&& (7 : Int32)) + (1 : Int32))), .unset, .unset, .unset, .unset, .unset, .unset, .unset, .unset, .unset, .unset] [(.int p1)])) rfl (hb hby at_9) _ ?_
    show Steps p.tables e below (s₁.setTop (mkF m 11 #[.val (.int p0), .val (.int p1), .val (.int p2), .val (.int p3), .val (.int ((p0 &&& (7 : Int32)) + (1 : Int32))), .unset, .unset, .unset, .unset, .unset, .unset, .unset, .unset, .unset, .unset] [(.int (2147483647 : Int32)), (.int p1)])) _
    refine XS.iand X0.here hx rfl (hb hby at_11) rfl ?_
    show Steps p.tables e below (s₁.setTop (mkF m 12 #[.val (.int p0), .val (.int p1), .val (.int p2), .val (.int p3), .val (.int ((p0 &&& (7 : Int32)) + (1 : Int32))), .unset, .unset, .unset, .unset, .unset, .unset, .unset, .unset, .unset, .unset] [(.int (p1 &&& (2147483647 : Int32)))])) _
    refine XS.iload X0.here hx rfl (hb hby at_12) rfl ?_
    show Steps p.tables e below (s₁.setTop (mkF m 14 #[.val (.int p0), .val (.int p1), .val (.int p2), .val (.int p3), .val (.int ((p0 &&& (7 : Int32)) + (1 : Int32))), .unset, .unset, .unset, .unset, .unset, .unset, .unset, .unset, .unset, .unset] [(.int ((p0 &&& (7 : Int32)) + (1 : Int32))), (.int (p1 &&& (2147483647 : Int32)))])) _
    refine iremM X0 hx rfl (hb hby at_14) rfl fk0 ?_
    show Steps p.tables e below (s₁.setTop (mkF m 15 #[.val (.int p0), .val (.int p1), .val (.int p2), .val (.int p3), .val (.int ((p0 &&& (7 : Int32)) + (1 : Int32))), .unset, .unset, .unset, .unset, .unset, .unset, .unset, .unset, .unset, .unset] [(.int ((p1 &&& (2147483647 : Int32)) % ((p0 &&& (7 : Int32)) + (1 : Int32))))])) _
    refine XS.istore X0.here hx rfl (hb hby at_15) rfl (l' := #[.val (.int p0), .val (.int p1), .val (.int p2), .val (.int p3), .val (.int ((p0 &&& (7 : Int32)) + (1 : Int32))), .val (.int ((p1 &&& (2147483647 : Int32)) % ((p0 &&& (7 : Int32)) + (1 : Int32)))), .unset, .unset, .unset, .unset, .unset, .unset, .unset, .unset, .unset]) rfl ?_
    show Steps p.tables e below (s₁.setTop (mkF m 17 #[.val (.int p0), .val (.int p1), .val (.int p2), .val (.int p3), .val (.int ((p0 &&& (7 : Int32)) + (1 : Int32))), .val (.int ((p1 &&& (2147483647 : Int32)) % ((p0 &&& (7 : Int32)) + (1 : Int32)))), .unset, .unset, .unset, .unset, .unset, .unset, .unset, .unset, .unset] [])) _
    refine XS.iloadN X0.here hx rfl (hb hby at_17) rfl ?_
    show Steps p.tables e below (s₁.setTop (mkF m 18 #[.val (.int p0), .val (.int p1), .val (.int p2), .val (.int p3), .val (.int ((p0 &&& (7 : Int32)) + (1 : Int32))), .val (.int ((p1 &&& (2147483647 : Int32)) % ((p0 &&& (7 : Int32)) + (1 : Int32)))), .unset, .unset, .unset, .unset, .unset, .unset, .unset, .unset, .unset] [(.int p2)])) _
    refine X0.ldcInt hx hown (mvT hZ (hw _ (tk 0 rfl))) (g := (mkF m 18 #[.val (.int p0), .val (.int p1), .val (.int p2), .val (.int p3), .val (.int ((p0 &&& (7 : Int32)) + (1 : Int32))), .val (.int ((p1 &&& (2147483647 : Int32)) % ((p0 &&& (7 : Int32)) + (1 : Int32)))), .unset, .unset, .unset, .unset, .unset, .unset, .unset, .unset, .unset] [(.int p2)])) rfl (hb hby at_18) _ ?_
    show Steps p.tables e below (s₁.setTop (mkF m 20 #[.val (.int p0), .val (.int p1), .val (.int p2), .val (.int p3), .val (.int ((p0 &&& (7 : Int32)) + (1 : Int32))), .val (.int ((p1 &&& (2147483647 : Int32)) % ((p0 &&& (7 : Int32)) + (1 : Int32)))), .unset, .unset, .unset, .unset, .unset, .unset, .unset, .unset, .unset] [(.int (2147483647 : Int32)), (.int p2)])) _
    refine XS.iand X0.here hx rfl (hb hby at_20) rfl ?_
    show Steps p.tables e below (s₁.setTop (mkF m 21 #[.val (.int p0), .val (.int p1), .val (.int p2), .val (.int p3), .val (.int ((p0 &&& (7 : Int32)) + (1 : Int32))), .val (.int ((p1 &&& (2147483647 : Int32)) % ((p0 &&& (7 : Int32)) + (1 : Int32)))), .unset, .unset, .unset, .unset, .unset, .unset, .unset, .unset, .unset] [(.int (p2 &&& (2147483647 : Int32)))])) _
    refine XS.iload X0.here hx rfl (hb hby at_21) rfl ?_
    show Steps p.tables e below (s₁.setTop (mkF m 23 #[.val (.int p0), .val (.int p1), .val (.int p2), .val (.int p3), .val (.int ((p0 &&& (7 : Int32)) + (1 : Int32))), .val (.int ((p1 &&& (2147483647 : Int32)) % ((p0 &&& (7 : Int32)) + (1 : Int32)))), .unset, .unset, .unset, .unset, .unset, .unset, .unset, .unset, .unset] [(.int ((p0 &&& (7 : Int32)) + (1 : Int32))), (.int (p2 &&& (2147483647 : Int32)))])) _
    refine iremM X0 hx rfl (hb hby at_23) rfl fk0 ?_
    show Steps p.tables e below (s₁.setTop (mkF m 24 #[.val (.int p0), .val (.int p1), .val (.int p2), .val (.int p3), .val (.int ((p0 &&& (7 : Int32)) + (1 : Int32))), .val (.int ((p1 &&& (2147483647 : Int32)) % ((p0 &&& (7 : Int32)) + (1 : Int32)))), .unset, .unset, .unset, .unset, .unset, .unset, .unset, .unset, .unset] [(.int ((p2 &&& (2147483647 : Int32)) % ((p0 &&& (7 : Int32)) + (1 : Int32))))])) _
    refine XS.istore X0.here hx rfl (hb hby at_24) rfl (l' := #[.val (.int p0), .val (.int p1), .val (.int p2), .val (.int p3), .val (.int ((p0 &&& (7 : Int32)) + (1 : Int32))), .val (.int ((p1 &&& (2147483647 : Int32)) % ((p0 &&& (7 : Int32)) + (1 : Int32)))), .val (.int ((p2 &&& (2147483647 : Int32)) % ((p0 &&& (7 : Int32)) + (1 : Int32)))), .unset, .unset, .unset, .unset, .unset, .unset, .unset, .unset]) rfl ?_
    show Steps p.tables e below (s₁.setTop (mkF m 26 #[.val (.int p0), .val (.int p1), .val (.int p2), .val (.int p3), .val (.int ((p0 &&& (7 : Int32)) + (1 : Int32))), .val (.int ((p1 &&& (2147483647 : Int32)) % ((p0 &&& (7 : Int32)) + (1 : Int32)))), .val (.int ((p2 &&& (2147483647 : Int32)) % ((p0 &&& (7 : Int32)) + (1 : Int32)))), .unset, .unset, .unset, .unset, .unset, .unset, .unset, .unset] [])) _
    refine XS.iloadN X0.here hx rfl (hb hby at_26) rfl ?_
    show Steps p.tables e below (s₁.setTop (mkF m 27 #[.val (.int p0), .val (.int p1), .val (.int p2), .val (.int p3), .val (.int ((p0 &&& (7 : Int32)) + (1 : Int32))), .val (.int ((p1 &&& (2147483647 : Int32)) % ((p0 &&& (7 : Int32)) + (1 : Int32)))), .val (.int ((p2 &&& (2147483647 : Int32)) % ((p0 &&& (7 : Int32)) + (1 : Int32)))), .unset, .unset, .unset, .unset, .unset, .unset, .unset, .unset] [(.int p3)])) _
    refine XS.iconst X0.here hx rfl (hb hby at_27) ?_
    show Steps p.tables e below (s₁.setTop (mkF m 28 #[.val (.int p0), .val (.int p1), .val (.int p2), .val (.int p3), .val (.int ((p0 &&& (7 : Int32)) + (1 : Int32))), .val (.int ((p1 &&& (2147483647 : Int32)) % ((p0 &&& (7 : Int32)) + (1 : Int32)))), .val (.int ((p2 &&& (2147483647 : Int32)) % ((p0 &&& (7 : Int32)) + (1 : Int32)))), .unset, .unset, .unset, .unset, .unset, .unset, .unset, .unset] [(.int (1 : Int32)), (.int p3)])) _
    refine XS.iushr X0.here hx rfl (hb hby at_28) rfl ?_
    show Steps p.tables e below (s₁.setTop (mkF m 29 #[.val (.int p0), .val (.int p1), .val (.int p2), .val (.int p3), .val (.int ((p0 &&& (7 : Int32)) + (1 : Int32))), .val (.int ((p1 &&& (2147483647 : Int32)) % ((p0 &&& (7 : Int32)) + (1 : Int32)))), .val (.int ((p2 &&& (2147483647 : Int32)) % ((p0 &&& (7 : Int32)) + (1 : Int32)))), .unset, .unset, .unset, .unset, .unset, .unset, .unset, .unset] [(.int ((p3.toUInt32 >>> ((1 : Int32) &&& 31).toUInt32).toInt32))])) _
    refine XS.sipush X0.here hx rfl (hb hby at_29) ?_
    show Steps p.tables e below (s₁.setTop (mkF m 32 #[.val (.int p0), .val (.int p1), .val (.int p2), .val (.int p3), .val (.int ((p0 &&& (7 : Int32)) + (1 : Int32))), .val (.int ((p1 &&& (2147483647 : Int32)) % ((p0 &&& (7 : Int32)) + (1 : Int32)))), .val (.int ((p2 &&& (2147483647 : Int32)) % ((p0 &&& (7 : Int32)) + (1 : Int32)))), .unset, .unset, .unset, .unset, .unset, .unset, .unset, .unset] [(.int (255 : Int32)), (.int ((p3.toUInt32 >>> ((1 : Int32) &&& 31).toUInt32).toInt32))])) _
    refine XS.iand X0.here hx rfl (hb hby at_32) rfl ?_
    show Steps p.tables e below (s₁.setTop (mkF m 33 #[.val (.int p0), .val (.int p1), .val (.int p2), .val (.int p3), .val (.int ((p0 &&& (7 : Int32)) + (1 : Int32))), .val (.int ((p1 &&& (2147483647 : Int32)) % ((p0 &&& (7 : Int32)) + (1 : Int32)))), .val (.int ((p2 &&& (2147483647 : Int32)) % ((p0 &&& (7 : Int32)) + (1 : Int32)))), .unset, .unset, .unset, .unset, .unset, .unset, .unset, .unset] [(.int (((p3.toUInt32 >>> ((1 : Int32) &&& 31).toUInt32).toInt32) &&& (255 : Int32)))])) _
    refine XS.istore X0.here hx rfl (hb hby at_33) rfl (l' := #[.val (.int p0), .val (.int p1), .val (.int p2), .val (.int p3), .val (.int ((p0 &&& (7 : Int32)) + (1 : Int32))), .val (.int ((p1 &&& (2147483647 : Int32)) % ((p0 &&& (7 : Int32)) + (1 : Int32)))), .val (.int ((p2 &&& (2147483647 : Int32)) % ((p0 &&& (7 : Int32)) + (1 : Int32)))), .val (.int (((p3.toUInt32 >>> ((1 : Int32) &&& 31).toUInt32).toInt32) &&& (255 : Int32))), .unset, .unset, .unset, .unset, .unset, .unset, .unset]) rfl ?_
    show Steps p.tables e below (s₁.setTop (mkF m 35 #[.val (.int p0), .val (.int p1), .val (.int p2), .val (.int p3), .val (.int ((p0 &&& (7 : Int32)) + (1 : Int32))), .val (.int ((p1 &&& (2147483647 : Int32)) % ((p0 &&& (7 : Int32)) + (1 : Int32)))), .val (.int ((p2 &&& (2147483647 : Int32)) % ((p0 &&& (7 : Int32)) + (1 : Int32)))), .val (.int (((p3.toUInt32 >>> ((1 : Int32) &&& 31).toUInt32).toInt32) &&& (255 : Int32))), .unset, .unset, .unset, .unset, .unset, .unset, .unset] [])) _
    refine XS.iloadN X0.here hx rfl (hb hby at_35) rfl ?_
    show Steps p.tables e below (s₁.setTop (mkF m 36 #[.val (.int p0), .val (.int p1), .val (.int p2), .val (.int p3), .val (.int ((p0 &&& (7 : Int32)) + (1 : Int32))), .val (.int ((p1 &&& (2147483647 : Int32)) % ((p0 &&& (7 : Int32)) + (1 : Int32)))), .val (.int ((p2 &&& (2147483647 : Int32)) % ((p0 &&& (7 : Int32)) + (1 : Int32)))), .val (.int (((p3.toUInt32 >>> ((1 : Int32) &&& 31).toUInt32).toInt32) &&& (255 : Int32))), .unset, .unset, .unset, .unset, .unset, .unset, .unset] [(.int p3)])) _
    refine XS.iconst X0.here hx rfl (hb hby at_36) ?_
    show Steps p.tables e below (s₁.setTop (mkF m 37 #[.val (.int p0), .val (.int p1), .val (.int p2), .val (.int p3), .val (.int ((p0 &&& (7 : Int32)) + (1 : Int32))), .val (.int ((p1 &&& (2147483647 : Int32)) % ((p0 &&& (7 : Int32)) + (1 : Int32)))), .val (.int ((p2 &&& (2147483647 : Int32)) % ((p0 &&& (7 : Int32)) + (1 : Int32)))), .val (.int (((p3.toUInt32 >>> ((1 : Int32) &&& 31).toUInt32).toInt32) &&& (255 : Int32))), .unset, .unset, .unset, .unset, .unset, .unset, .unset] [(.int (1 : Int32)), (.int p3)])) _
    refine XS.iand X0.here hx rfl (hb hby at_37) rfl ?_
    show Steps p.tables e below (s₁.setTop (mkF m 38 #[.val (.int p0), .val (.int p1), .val (.int p2), .val (.int p3), .val (.int ((p0 &&& (7 : Int32)) + (1 : Int32))), .val (.int ((p1 &&& (2147483647 : Int32)) % ((p0 &&& (7 : Int32)) + (1 : Int32)))), .val (.int ((p2 &&& (2147483647 : Int32)) % ((p0 &&& (7 : Int32)) + (1 : Int32)))), .val (.int (((p3.toUInt32 >>> ((1 : Int32) &&& 31).toUInt32).toInt32) &&& (255 : Int32))), .unset, .unset, .unset, .unset, .unset, .unset, .unset] [(.int (p3 &&& (1 : Int32)))])) _
    exact kt
  by_cases hc2 : (p3 &&& (1 : Int32)) = (0 : Int32)
  · obtain ⟨T3, h3, X3, e3, E3, A3, D3, -, st3⟩ := newO X0 hx hZ hown (hw _ (tk 1 rfl)) (hw _ (tk 2 rfl)) (hw _ (tk 3 rfl)) e0 (g := (mkF m 48 #[.val (.int p0), .val (.int p1), .val (.int p2), .val (.int p3), .val (.int ((p0 &&& (7 : Int32)) + (1 : Int32))), .val (.int ((p1 &&& (2147483647 : Int32)) % ((p0 &&& (7 : Int32)) + (1 : Int32)))), .val (.int ((p2 &&& (2147483647 : Int32)) % ((p0 &&& (7 : Int32)) + (1 : Int32)))), .val (.int (((p3.toUInt32 >>> ((1 : Int32) &&& 31).toUInt32).toInt32) &&& (255 : Int32))), .val (.int (0 : Int32)), .unset, .unset, .unset, .unset, .unset, .unset] [])) rfl (hb hby at_48) (by decide) (by decide)
    obtain ⟨b3, g3⟩ : ∃ z, z = h0.size := ⟨_, rfl⟩
    rw [← g3] at A3 D3 st3
    have g_b3 : n0 ≤ b3 := Nat.le_trans (own_old O0) (Nat.le_of_eq g3.symm)
    have O3 : Old Z n0 h3 := O0.ext E3
    have F_matchingLines_b3 : Fld Z h3 b3 "com/example/vetd/vetd/Policy$ActionRules" "matchingLines" "Ljava/util/Map;" .null := D3 (Or.inr (hw _ (tk 27 rfl))) (ty := (.object "java/util/Map")) (by decide)
    have F_jointLines_b3 : Fld Z h3 b3 "com/example/vetd/vetd/Policy$ActionRules" "jointLines" "Lcom/example/vetd/vetd/JointLines;" .null := D3 (Or.inr (hw _ (tk 40 rfl))) (ty := (.object "com/example/vetd/vetd/JointLines")) (by decide)
    have F_exceptions_b3 : Fld Z h3 b3 "com/example/vetd/vetd/Policy$ActionRules" "exceptions" "Ljava/util/Map;" .null := D3 (Or.inr (hw _ (tk 42 rfl))) (ty := (.object "java/util/Map")) (by decide)
    have F_lines_b3 : Fld Z h3 b3 "com/example/vetd/vetd/Policy$ActionRules" "lines" "[Lcom/example/vetd/vetd/Policy$Lines;" .null := D3 (Or.inr (hw _ (tk 46 rfl))) (ty := (.array (.object "com/example/vetd/vetd/Policy$Lines"))) (by decide)
    obtain ⟨_, _, ⟨T84, L84, k84, n84⟩, -, X84, ⟨Lc84, hQ84, l84, y84, z84⟩, st84⟩ := X3.specialBack hx (y := Y3) rfl hown (mvT hZ (hw _ (tk 4 rfl))) (mvT hZ (hw _ (tk 5 rfl))) (mvT hZ (hw _ (tk 6 rfl))) (by decide) (backOf (W := 1) (rm1x1 l Z a0 hw [] hS0 b3 ((p0 &&& (7 : Int32)) + (1 : Int32)) h3 n0 O3 g_b3 A3 F_exceptions_b3 F_jointLines_b3 F_lines_b3 F_matchingLines_b3 fk1 (own_ncap p0)) hZ (hw _ (tk 6 rfl)) (hw _ (tk 3 rfl)) (by decide) (by decide)) (g := (mkF m 54 #[.val (.int p0), .val (.int p1), .val (.int p2), .val (.int p3), .val (.int ((p0 &&& (7 : Int32)) + (1 : Int32))), .val (.int ((p1 &&& (2147483647 : Int32)) % ((p0 &&& (7 : Int32)) + (1 : Int32)))), .val (.int ((p2 &&& (2147483647 : Int32)) % ((p0 &&& (7 : Int32)) + (1 : Int32)))), .val (.int (((p3.toUInt32 >>> ((1 : Int32) &&& 31).toUInt32).toInt32) &&& (255 : Int32))), .val (.int (0 : Int32)), .unset, .unset, .unset, .unset, .unset, .unset] [(.int ((p0 &&& (7 : Int32)) + (1 : Int32))), (.ref b3), (.ref b3)])) rfl (by rw [hml]; rfl) (Steps.refl _) (a := b3) (argsL := [(.int ((p0 &&& (7 : Int32)) + (1 : Int32)))]) (rest := [(.ref b3)]) (lenOf pd_1 rfl) rfl (by show 2 * 0 + _ ≤ _; exact Nat.le_of_eq rfl) (hb hby at_54) (fun _ _ => ⟨rfl, e3, (by decide : 1 + 5 ≤ _), (by decide : 4 + 33 ≤ _)⟩)
    dsimp only [Pt.U, Pt.locs, Pt.cells, Pt.slots] at X84 l84 y84 z84 st84 hQ84
    subst l84 y84 z84
    obtain ⟨b40_84, b68_84, k68_84, b47_84, b17_48_84, b58_84, rv84, N84q, O84, K84c, Fe84_0, Fe84_1, Fe84_2, Fe84_3, Fx84_0, Fx84_1, Fx84_2, Fx84_3, Fx84_4, Fx84_5, Fx84_6, Fx84_7, Fx84_8, Fx84_9, Fx84_10, Fx84_11, Fx84_12, Fx84_13, Fx84_14, Fx84_15, Fx84_16, Fx84_17, Fx84_18, Fx84_19, Fx84_20, Fx84_21, Fx84_22, Fx84_23, Fx84_24, Fx84_25, Fx84_26, Fx84_27, Fx84_28, Fx84_29⟩ := hQ84
    subst rv84
    have N84 := Fr.app N0 N84q
    have g_b40_84 := Fx84_0
    have ne_b3_b40_84 : b3 ≠ b40_84 := Nat.ne_of_lt (Nat.lt_of_lt_of_le A3.lt Fx84_1)
    have g_b68_84 := Fx84_4
    have ne_b3_b68_84 : b3 ≠ b68_84 := Nat.ne_of_lt (Nat.lt_of_lt_of_le A3.lt Fx84_5)
    have g_b47_84 := Fx84_8
    have ne_b3_b47_84 : b3 ≠ b47_84 := Nat.ne_of_lt (Nat.lt_of_lt_of_le A3.lt Fx84_9)
    have g_b17_48_84 := Fx84_12
    have ne_b3_b17_48_84 : b3 ≠ b17_48_84 := Nat.ne_of_lt (Nat.lt_of_lt_of_le A3.lt Fx84_13)
    have g_b58_84 := Fx84_16
    have ne_b3_b58_84 : b3 ≠ b58_84 := Nat.ne_of_lt (Nat.lt_of_lt_of_le A3.lt Fx84_17)
    have c167 := (A3.keep K84c)
    obtain ⟨cq168, kq168, q168a, q168b, q168c⟩ := isOf hZ rfl c167
    obtain ⟨_, _, ⟨T168, L168, k168, n168⟩, -, X168, ⟨Lc168, hQ168, l168, y168, z168⟩, st168⟩ := X84.virtualBack hx (y := Y8) (z := Y8) hown (mvT hZ (hw _ (tk 82 rfl))) (mvT hZ (hw _ (tk 83 rfl))) (notFace_of_selects (args := #[]) (mvT hZ (hw _ (tk 85 rfl)))) (mvT hZ (hw _ (tk 85 rfl))) (mvT hZ (hw _ (tk 84 rfl))) (by decide) (backOf (W := 0) (rm10x1 l Z a0 hw [] hS0 b3 ((p1 &&& (2147483647 : Int32)) % ((p0 &&& (7 : Int32)) + (1 : Int32))) b68_84 k68_84 ((p0 &&& (7 : Int32)) + (1 : Int32)) T84.heap n0 O84 g_b3 g_b68_84 c167 Fe84_2 Fx84_7 Fx84_6 ne_b3_b68_84 fk4 fk2) hZ (hw _ (tk 86 rfl)) (hw _ (tk 3 rfl)) (by decide) (by decide)) q168a q168c (g := (mkF m 90 #[.val (.int p0), .val (.int p1), .val (.int p2), .val (.int p3), .val (.int ((p0 &&& (7 : Int32)) + (1 : Int32))), .val (.int ((p1 &&& (2147483647 : Int32)) % ((p0 &&& (7 : Int32)) + (1 : Int32)))), .val (.int ((p2 &&& (2147483647 : Int32)) % ((p0 &&& (7 : Int32)) + (1 : Int32)))), .val (.int (((p3.toUInt32 >>> ((1 : Int32) &&& 31).toUInt32).toInt32) &&& (255 : Int32))), .val (.int (0 : Int32)), .val (.ref b3), .val .null, .unset, .unset, .unset, .unset] [(.int ((p1 &&& (2147483647 : Int32)) % ((p0 &&& (7 : Int32)) + (1 : Int32)))), (.ref b3)])) rfl (by rw [hml]; rfl) (Steps.refl _) (argsL := [(.int ((p1 &&& (2147483647 : Int32)) % ((p0 &&& (7 : Int32)) + (1 : Int32))))]) (rest := []) (lenOf pd_3 rfl) rfl (by show 2 * 0 + _ ≤ _; exact Nat.le_of_eq rfl) (hb hby at_90) (fun _ _ => ⟨rfl, rfl, (by decide : 6 + 5 ≤ _), (by decide : 37 + 10 ≤ _)⟩)
    dsimp only [Pt.U, Pt.locs, Pt.cells, Pt.slots] at X168 l168 y168 z168 st168 hQ168
    subst l168 y168 z168
    obtain ⟨b92_168, b125_144_168, b101_111_126_144_168, k101_111_126_144_168, b94_144_168, b101_111_117_144_168, k101_111_117_144_168, rv168, N168q, O168, K168c, Fe168_0, Fx168_0, Fx168_1, Fx168_2, Fx168_3, Fx168_4, Fx168_5, Fx168_6, Fx168_7, Fx168_8, Fx168_9, Fx168_10, Fx168_11, Fx168_12, Fx168_13, Fx168_14, Fx168_15, Fx168_16, Fx168_17, Fx168_18, Fx168_19, Fx168_20, Fx168_21, Fx168_22, Fx168_23, Fx168_24, Fx168_25, Fx168_26, Fx168_27, Fx168_28, Fx168_29, Fx168_30, Fx168_31, Fx168_32⟩ := hQ168
    subst rv168
    have N168 := Fr.app N84 N168q
    have g_b92_168 := Fx168_0
    have ne_b3_b92_168 : b3 ≠ b92_168 := Nat.ne_of_lt (Nat.lt_of_lt_of_le c167.lt Fx168_1)
    have ne_b40_84_b92_168 : b40_84 ≠ b92_168 := Nat.ne_of_lt (Nat.lt_of_lt_of_le Fx84_2.lt Fx168_1)
    have ne_b68_84_b92_168 : b68_84 ≠ b92_168 := Nat.ne_of_lt (Nat.lt_of_lt_of_le Fx84_6.lt Fx168_1)
    have ne_b47_84_b92_168 : b47_84 ≠ b92_168 := Nat.ne_of_lt (Nat.lt_of_lt_of_le Fx84_10.lt Fx168_1)
    have ne_b17_48_84_b92_168 : b17_48_84 ≠ b92_168 := Nat.ne_of_lt (Nat.lt_of_lt_of_le Fx84_14.lt Fx168_1)
    have ne_b58_84_b92_168 : b58_84 ≠ b92_168 := Nat.ne_of_lt (Nat.lt_of_lt_of_le Fx84_18.lt Fx168_1)
    have g_b125_144_168 := Fx168_5
    have ne_b3_b125_144_168 : b3 ≠ b125_144_168 := Nat.ne_of_lt (Nat.lt_of_lt_of_le c167.lt Fx168_6)
    have ne_b40_84_b125_144_168 : b40_84 ≠ b125_144_168 := Nat.ne_of_lt (Nat.lt_of_lt_of_le Fx84_2.lt Fx168_6)
    have ne_b68_84_b125_144_168 : b68_84 ≠ b125_144_168 := Nat.ne_of_lt (Nat.lt_of_lt_of_le Fx84_6.lt Fx168_6)
    have ne_b47_84_b125_144_168 : b47_84 ≠ b125_144_168 := Nat.ne_of_lt (Nat.lt_of_lt_of_le Fx84_10.lt Fx168_6)
    have ne_b17_48_84_b125_144_168 : b17_48_84 ≠ b125_144_168 := Nat.ne_of_lt (Nat.lt_of_lt_of_le Fx84_14.lt Fx168_6)
    have ne_b58_84_b125_144_168 : b58_84 ≠ b125_144_168 := Nat.ne_of_lt (Nat.lt_of_lt_of_le Fx84_18.lt Fx168_6)
    have g_b101_111_126_144_168 := Fx168_11
    have ne_b3_b101_111_126_144_168 : b3 ≠ b101_111_126_144_168 := Nat.ne_of_lt (Nat.lt_of_lt_of_le c167.lt Fx168_12)
    have ne_b40_84_b101_111_126_144_168 : b40_84 ≠ b101_111_126_144_168 := Nat.ne_of_lt (Nat.lt_of_lt_of_le Fx84_2.lt Fx168_12)
    have ne_b68_84_b101_111_126_144_168 : b68_84 ≠ b101_111_126_144_168 := Nat.ne_of_lt (Nat.lt_of_lt_of_le Fx84_6.lt Fx168_12)
    have ne_b47_84_b101_111_126_144_168 : b47_84 ≠ b101_111_126_144_168 := Nat.ne_of_lt (Nat.lt_of_lt_of_le Fx84_10.lt Fx168_12)
    have ne_b17_48_84_b101_111_126_144_168 : b17_48_84 ≠ b101_111_126_144_168 := Nat.ne_of_lt (Nat.lt_of_lt_of_le Fx84_14.lt Fx168_12)
    have ne_b58_84_b101_111_126_144_168 : b58_84 ≠ b101_111_126_144_168 := Nat.ne_of_lt (Nat.lt_of_lt_of_le Fx84_18.lt Fx168_12)
    have g_b94_144_168 := Fx168_14
    have ne_b3_b94_144_168 : b3 ≠ b94_144_168 := Nat.ne_of_lt (Nat.lt_of_lt_of_le c167.lt Fx168_15)
    have ne_b40_84_b94_144_168 : b40_84 ≠ b94_144_168 := Nat.ne_of_lt (Nat.lt_of_lt_of_le Fx84_2.lt Fx168_15)
    have ne_b68_84_b94_144_168 : b68_84 ≠ b94_144_168 := Nat.ne_of_lt (Nat.lt_of_lt_of_le Fx84_6.lt Fx168_15)
    have ne_b47_84_b94_144_168 : b47_84 ≠ b94_144_168 := Nat.ne_of_lt (Nat.lt_of_lt_of_le Fx84_10.lt Fx168_15)
    have ne_b17_48_84_b94_144_168 : b17_48_84 ≠ b94_144_168 := Nat.ne_of_lt (Nat.lt_of_lt_of_le Fx84_14.lt Fx168_15)
    have ne_b58_84_b94_144_168 : b58_84 ≠ b94_144_168 := Nat.ne_of_lt (Nat.lt_of_lt_of_le Fx84_18.lt Fx168_15)
    have g_b101_111_117_144_168 := Fx168_20
    have ne_b3_b101_111_117_144_168 : b3 ≠ b101_111_117_144_168 := Nat.ne_of_lt (Nat.lt_of_lt_of_le c167.lt Fx168_21)
    have ne_b40_84_b101_111_117_144_168 : b40_84 ≠ b101_111_117_144_168 := Nat.ne_of_lt (Nat.lt_of_lt_of_le Fx84_2.lt Fx168_21)
    have ne_b68_84_b101_111_117_144_168 : b68_84 ≠ b101_111_117_144_168 := Nat.ne_of_lt (Nat.lt_of_lt_of_le Fx84_6.lt Fx168_21)
    have ne_b47_84_b101_111_117_144_168 : b47_84 ≠ b101_111_117_144_168 := Nat.ne_of_lt (Nat.lt_of_lt_of_le Fx84_10.lt Fx168_21)
    have ne_b17_48_84_b101_111_117_144_168 : b17_48_84 ≠ b101_111_117_144_168 := Nat.ne_of_lt (Nat.lt_of_lt_of_le Fx84_14.lt Fx168_21)
    have ne_b58_84_b101_111_117_144_168 : b58_84 ≠ b101_111_117_144_168 := Nat.ne_of_lt (Nat.lt_of_lt_of_le Fx84_18.lt Fx168_21)
    have c169 := (Fe84_2.keep K168c (ninS ne_b3_b68_84 nin0))
    obtain ⟨T170, X170, e170, st170⟩ := getF X168 hx hZ hown (host := "") (Or.inl (hw _ (tk 80 rfl))) Via.refl rfl c169 (g := (mkF m 102 #[.val (.int p0), .val (.int p1), .val (.int p2), .val (.int p3), .val (.int ((p0 &&& (7 : Int32)) + (1 : Int32))), .val (.int ((p1 &&& (2147483647 : Int32)) % ((p0 &&& (7 : Int32)) + (1 : Int32)))), .val (.int ((p2 &&& (2147483647 : Int32)) % ((p0 &&& (7 : Int32)) + (1 : Int32)))), .val (.int (((p3.toUInt32 >>> ((1 : Int32) &&& 31).toUInt32).toInt32) &&& (255 : Int32))), .val (.int (0 : Int32)), .val (.ref b3), .val .null, .val (.ref b92_168), .unset, .unset, .unset] [(.ref b3)])) rfl rfl (hb hby at_102)
    obtain ⟨cl171, Ar171, qa171, Sa171, Ma171, Ha171, Ga171⟩ := id Fe168_0
    obtain ⟨T172, X172, e172, st172⟩ := getF X170 hx hZ hown (host := "") (Or.inl (hw _ (tk 80 rfl))) Via.refl e170 c169 (g := (mkF m 113 #[.val (.int p0), .val (.int p1), .val (.int p2), .val (.int p3), .val (.int ((p0 &&& (7 : Int32)) + (1 : Int32))), .val (.int ((p1 &&& (2147483647 : Int32)) % ((p0 &&& (7 : Int32)) + (1 : Int32)))), .val (.int ((p2 &&& (2147483647 : Int32)) % ((p0 &&& (7 : Int32)) + (1 : Int32)))), .val (.int (((p3.toUInt32 >>> ((1 : Int32) &&& 31).toUInt32).toInt32) &&& (255 : Int32))), .val (.int (0 : Int32)), .val (.ref b3), .val .null, .val (.ref b92_168), .unset, .unset, .unset] [(.ref b3)])) rfl rfl (hb hby at_113)
    obtain ⟨cl173, Ar173, qa173, Sa173, Ma173, Ha173, Ga173⟩ := id Fe168_0
    have hin173 : ¬ (((p1 &&& (2147483647 : Int32)) % ((p0 &&& (7 : Int32)) + (1 : Int32))) < 0 ∨ cl173.slots.size ≤ (((p1 &&& (2147483647 : Int32)) % ((p0 &&& (7 : Int32)) + (1 : Int32)))).toNatClampNeg) := by exact inb_of Sa173 ⟨fk2, fk4⟩
    have hat173 : cl173.slots[(((p1 &&& (2147483647 : Int32)) % ((p0 &&& (7 : Int32)) + (1 : Int32)))).toNatClampNeg]? = some (.ref b92_168) := atH Ha173 hin173 (getH_hit fk2 rfl)
    have c183 := (c167.keep K168c)
    obtain ⟨cq184, kq184, q184a, q184b, q184c⟩ := isOf hZ e172 c183
    obtain ⟨_, _, ⟨T184, L184, k184, n184⟩, -, X184, ⟨Lc184, hQ184, l184, y184, z184⟩, st184⟩ := X172.virtualBack hx (y := Y8) (z := Y8) hown (mvT hZ (hw _ (tk 82 rfl))) (mvT hZ (hw _ (tk 83 rfl))) (notFace_of_selects (args := #[]) (mvT hZ (hw _ (tk 85 rfl)))) (mvT hZ (hw _ (tk 85 rfl))) (mvT hZ (hw _ (tk 84 rfl))) (by decide) (backOf (W := 0) (rm10x2 l Z a0 hw [] hS0 b3 ((p1 &&& (2147483647 : Int32)) % ((p0 &&& (7 : Int32)) + (1 : Int32))) b68_84 b92_168 b125_144_168 b101_111_126_144_168 b94_144_168 b101_111_117_144_168 k68_84 ((p0 &&& (7 : Int32)) + (1 : Int32)) ((p1 &&& (2147483647 : Int32)) % ((p0 &&& (7 : Int32)) + (1 : Int32))) k101_111_126_144_168 k101_111_117_144_168 T168.heap n0 O168 g_b3 g_b68_84 g_b92_168 g_b125_144_168 g_b101_111_126_144_168 g_b94_144_168 g_b101_111_117_144_168 c183 c169 Fx84_7 Fe168_0 Fx168_2 Fx168_4 Fx168_3 Fx168_7 Fx168_9 Fx168_10 Fx168_8 Fx168_13 Fx168_16 Fx168_18 Fx168_19 Fx168_17 Fx168_22 ne_b3_b68_84 ne_b3_b92_168 ne_b3_b125_144_168 ne_b3_b101_111_126_144_168 ne_b3_b94_144_168 ne_b3_b101_111_117_144_168 ne_b68_84_b92_168 ne_b68_84_b125_144_168 ne_b68_84_b101_111_126_144_168 ne_b68_84_b94_144_168 ne_b68_84_b101_111_117_144_168 Fx168_23 Fx168_24 Fx168_25 Fx168_26 Fx168_27 Fx168_28 Fx168_29 Fx168_30 Fx168_31 Fx168_32 rfl fk4 fk2) hZ (hw _ (tk 86 rfl)) (hw _ (tk 3 rfl)) (by decide) (by decide)) q184a q184c (g := (mkF m 159 #[.val (.int p0), .val (.int p1), .val (.int p2), .val (.int p3), .val (.int ((p0 &&& (7 : Int32)) + (1 : Int32))), .val (.int ((p1 &&& (2147483647 : Int32)) % ((p0 &&& (7 : Int32)) + (1 : Int32)))), .val (.int ((p2 &&& (2147483647 : Int32)) % ((p0 &&& (7 : Int32)) + (1 : Int32)))), .val (.int (((p3.toUInt32 >>> ((1 : Int32) &&& 31).toUInt32).toInt32) &&& (255 : Int32))), .val (.int (0 : Int32)), .val (.ref b3), .val .null, .val (.ref b92_168), .val (.int (1 : Int32)), .unset, .unset] [(.int ((p1 &&& (2147483647 : Int32)) % ((p0 &&& (7 : Int32)) + (1 : Int32)))), (.ref b3)])) rfl (by rw [hml]; rfl) (Steps.refl _) (argsL := [(.int ((p1 &&& (2147483647 : Int32)) % ((p0 &&& (7 : Int32)) + (1 : Int32))))]) (rest := []) (lenOf pd_3 rfl) rfl (by show 2 * 0 + _ ≤ _; exact Nat.le_of_eq rfl) (hb hby at_159) (fun _ _ => ⟨rfl, e172, (by decide : 11 + 0 ≤ _), (by decide : 47 + 0 ≤ _)⟩)
    dsimp only [Pt.U, Pt.locs, Pt.cells, Pt.slots] at X184 l184 y184 z184 st184 hQ184
    subst l184 y184 z184
    obtain ⟨rv184, N184q, O184, K184c⟩ := hQ184
    subst rv184
    have N184 := Fr.app N168 N184q
    have c185 := (c169.keep K184c nin0)
    obtain ⟨T186, X186, e186, st186⟩ := getF X184 hx hZ hown (host := "") (Or.inl (hw _ (tk 80 rfl))) Via.refl rfl c185 (g := (mkF m 178 #[.val (.int p0), .val (.int p1), .val (.int p2), .val (.int p3), .val (.int ((p0 &&& (7 : Int32)) + (1 : Int32))), .val (.int ((p1 &&& (2147483647 : Int32)) % ((p0 &&& (7 : Int32)) + (1 : Int32)))), .val (.int ((p2 &&& (2147483647 : Int32)) % ((p0 &&& (7 : Int32)) + (1 : Int32)))), .val (.int (((p3.toUInt32 >>> ((1 : Int32) &&& 31).toUInt32).toInt32) &&& (255 : Int32))), .val (.int (0 : Int32)), .val (.ref b3), .val .null, .val (.ref b92_168), .val (.int (1 : Int32)), .val (.ref b92_168), .unset] [(.ref b3)])) rfl rfl (hb hby at_178)
    have c187 := (Fe168_0.keep K184c nin0)
    obtain ⟨cl188, Ar188, qa188, Sa188, Ma188, Ha188, Ga188⟩ := id c187
    have hin188 : ¬ (((p1 &&& (2147483647 : Int32)) % ((p0 &&& (7 : Int32)) + (1 : Int32))) < 0 ∨ cl188.slots.size ≤ (((p1 &&& (2147483647 : Int32)) % ((p0 &&& (7 : Int32)) + (1 : Int32)))).toNatClampNeg) := by exact inb_of Sa188 ⟨fk2, fk4⟩
    have hat188 : cl188.slots[(((p1 &&& (2147483647 : Int32)) % ((p0 &&& (7 : Int32)) + (1 : Int32)))).toNatClampNeg]? = some (.ref b92_168) := atH Ha188 hin188 (getH_hit fk2 rfl)
    have pre189 : ∀ t, Steps p.tables e below (T186.setTop (mkF m 200 #[.val (.int p0), .val (.int p1), .val (.int p2), .val (.int p3), .val (.int ((p0 &&& (7 : Int32)) + (1 : Int32))), .val (.int ((p1 &&& (2147483647 : Int32)) % ((p0 &&& (7 : Int32)) + (1 : Int32)))), .val (.int ((p2 &&& (2147483647 : Int32)) % ((p0 &&& (7 : Int32)) + (1 : Int32)))), .val (.int (((p3.toUInt32 >>> ((1 : Int32) &&& 31).toUInt32).toInt32) &&& (255 : Int32))), .val (.int (0 : Int32)), .val (.ref b3), .val .null, .val (.ref b92_168), .val (.int (1 : Int32)), .val (.ref b92_168), .unset] [(.int ((p1 &&& (2147483647 : Int32)) % ((p0 &&& (7 : Int32)) + (1 : Int32)))), (.int ((p2 &&& (2147483647 : Int32)) % ((p0 &&& (7 : Int32)) + (1 : Int32))))])) t → Steps p.tables e below (s₁.setTop (entryFrame m #[(.int p0), (.int p1), (.int p2), (.int p3)] maxLocals)) t := fun t kt => by
      refine pre1 t ?_
      show Steps p.tables e below (s₁.setTop (mkF m 38 #[.val (.int p0), .val (.int p1), .val (.int p2), .val (.int p3), .val (.int ((p0 &&& (7 : Int32)) + (1 : Int32))), .val (.int ((p1 &&& (2147483647 : Int32)) % ((p0 &&& (7 : Int32)) + (1 : Int32)))), .val (.int ((p2 &&& (2147483647 : Int32)) % ((p0 &&& (7 : Int32)) + (1 : Int32)))), .val (.int (((p3.toUInt32 >>> ((1 : Int32) &&& 31).toUInt32).toInt32) &&& (255 : Int32))), .unset, .unset, .unset, .unset, .unset, .unset, .unset] [(.int (p3 &&& (1 : Int32)))])) _
      refine XS.ifYes X0.here hx rfl (pc0 := 38) (pc' := 45) rfl (hb hby at_38) rfl ((if0 _ _).trans (teq hc2).1) (by decide) (by decide) ?_
      show Steps p.tables e below (s₁.setTop (mkF m 45 #[.val (.int p0), .val (.int p1), .val (.int p2), .val (.int p3), .val (.int ((p0 &&& (7 : Int32)) + (1 : Int32))), .val (.int ((p1 &&& (2147483647 : Int32)) % ((p0 &&& (7 : Int32)) + (1 : Int32)))), .val (.int ((p2 &&& (2147483647 : Int32)) % ((p0 &&& (7 : Int32)) + (1 : Int32)))), .val (.int (((p3.toUInt32 >>> ((1 : Int32) &&& 31).toUInt32).toInt32) &&& (255 : Int32))), .unset, .unset, .unset, .unset, .unset, .unset, .unset] [])) _
      refine XS.iconst X0.here hx rfl (hb hby at_45) ?_
      show Steps p.tables e below (s₁.setTop (mkF m 46 #[.val (.int p0), .val (.int p1), .val (.int p2), .val (.int p3), .val (.int ((p0 &&& (7 : Int32)) + (1 : Int32))), .val (.int ((p1 &&& (2147483647 : Int32)) % ((p0 &&& (7 : Int32)) + (1 : Int32)))), .val (.int ((p2 &&& (2147483647 : Int32)) % ((p0 &&& (7 : Int32)) + (1 : Int32)))), .val (.int (((p3.toUInt32 >>> ((1 : Int32) &&& 31).toUInt32).toInt32) &&& (255 : Int32))), .unset, .unset, .unset, .unset, .unset, .unset, .unset] [(.int (0 : Int32))])) _
      refine XS.istore X0.here hx rfl (hb hby at_46) rfl (l' := #[.val (.int p0), .val (.int p1), .val (.int p2), .val (.int p3), .val (.int ((p0 &&& (7 : Int32)) + (1 : Int32))), .val (.int ((p1 &&& (2147483647 : Int32)) % ((p0 &&& (7 : Int32)) + (1 : Int32)))), .val (.int ((p2 &&& (2147483647 : Int32)) % ((p0 &&& (7 : Int32)) + (1 : Int32)))), .val (.int (((p3.toUInt32 >>> ((1 : Int32) &&& 31).toUInt32).toInt32) &&& (255 : Int32))), .val (.int (0 : Int32)), .unset, .unset, .unset, .unset, .unset, .unset]) rfl ?_
      show Steps p.tables e below (s₁.setTop (mkF m 48 #[.val (.int p0), .val (.int p1), .val (.int p2), .val (.int p3), .val (.int ((p0 &&& (7 : Int32)) + (1 : Int32))), .val (.int ((p1 &&& (2147483647 : Int32)) % ((p0 &&& (7 : Int32)) + (1 : Int32)))), .val (.int ((p2 &&& (2147483647 : Int32)) % ((p0 &&& (7 : Int32)) + (1 : Int32)))), .val (.int (((p3.toUInt32 >>> ((1 : Int32) &&& 31).toUInt32).toInt32) &&& (255 : Int32))), .val (.int (0 : Int32)), .unset, .unset, .unset, .unset, .unset, .unset] [])) _
      refine st3 _ ?_
      show Steps p.tables e below (T3.setTop (mkF m 51 #[.val (.int p0), .val (.int p1), .val (.int p2), .val (.int p3), .val (.int ((p0 &&& (7 : Int32)) + (1 : Int32))), .val (.int ((p1 &&& (2147483647 : Int32)) % ((p0 &&& (7 : Int32)) + (1 : Int32)))), .val (.int ((p2 &&& (2147483647 : Int32)) % ((p0 &&& (7 : Int32)) + (1 : Int32)))), .val (.int (((p3.toUInt32 >>> ((1 : Int32) &&& 31).toUInt32).toInt32) &&& (255 : Int32))), .val (.int (0 : Int32)), .unset, .unset, .unset, .unset, .unset, .unset] [(.ref b3)])) _
      refine XS.dup X3.here hx rfl (hb hby at_51) rfl rfl ?_
      show Steps p.tables e below (T3.setTop (mkF m 52 #[.val (.int p0), .val (.int p1), .val (.int p2), .val (.int p3), .val (.int ((p0 &&& (7 : Int32)) + (1 : Int32))), .val (.int ((p1 &&& (2147483647 : Int32)) % ((p0 &&& (7 : Int32)) + (1 : Int32)))), .val (.int ((p2 &&& (2147483647 : Int32)) % ((p0 &&& (7 : Int32)) + (1 : Int32)))), .val (.int (((p3.toUInt32 >>> ((1 : Int32) &&& 31).toUInt32).toInt32) &&& (255 : Int32))), .val (.int (0 : Int32)), .unset, .unset, .unset, .unset, .unset, .unset] [(.ref b3), (.ref b3)])) _
      refine XS.iload X3.here hx rfl (hb hby at_52) rfl ?_
      show Steps p.tables e below (T3.setTop (mkF m 54 #[.val (.int p0), .val (.int p1), .val (.int p2), .val (.int p3), .val (.int ((p0 &&& (7 : Int32)) + (1 : Int32))), .val (.int ((p1 &&& (2147483647 : Int32)) % ((p0 &&& (7 : Int32)) + (1 : Int32)))), .val (.int ((p2 &&& (2147483647 : Int32)) % ((p0 &&& (7 : Int32)) + (1 : Int32)))), .val (.int (((p3.toUInt32 >>> ((1 : Int32) &&& 31).toUInt32).toInt32) &&& (255 : Int32))), .val (.int (0 : Int32)), .unset, .unset, .unset, .unset, .unset, .unset] [(.int ((p0 &&& (7 : Int32)) + (1 : Int32))), (.ref b3), (.ref b3)])) _
      refine st84.trans ?_
      show Steps p.tables e below (T84.setTop (mkF m 57 #[.val (.int p0), .val (.int p1), .val (.int p2), .val (.int p3), .val (.int ((p0 &&& (7 : Int32)) + (1 : Int32))), .val (.int ((p1 &&& (2147483647 : Int32)) % ((p0 &&& (7 : Int32)) + (1 : Int32)))), .val (.int ((p2 &&& (2147483647 : Int32)) % ((p0 &&& (7 : Int32)) + (1 : Int32)))), .val (.int (((p3.toUInt32 >>> ((1 : Int32) &&& 31).toUInt32).toInt32) &&& (255 : Int32))), .val (.int (0 : Int32)), .unset, .unset, .unset, .unset, .unset, .unset] [(.ref b3)])) _
      refine XS.astore X84.here hx rfl (hb hby at_57) rfl rfl (l' := #[.val (.int p0), .val (.int p1), .val (.int p2), .val (.int p3), .val (.int ((p0 &&& (7 : Int32)) + (1 : Int32))), .val (.int ((p1 &&& (2147483647 : Int32)) % ((p0 &&& (7 : Int32)) + (1 : Int32)))), .val (.int ((p2 &&& (2147483647 : Int32)) % ((p0 &&& (7 : Int32)) + (1 : Int32)))), .val (.int (((p3.toUInt32 >>> ((1 : Int32) &&& 31).toUInt32).toInt32) &&& (255 : Int32))), .val (.int (0 : Int32)), .val (.ref b3), .unset, .unset, .unset, .unset, .unset]) rfl ?_
      show Steps p.tables e below (T84.setTop (mkF m 59 #[.val (.int p0), .val (.int p1), .val (.int p2), .val (.int p3), .val (.int ((p0 &&& (7 : Int32)) + (1 : Int32))), .val (.int ((p1 &&& (2147483647 : Int32)) % ((p0 &&& (7 : Int32)) + (1 : Int32)))), .val (.int ((p2 &&& (2147483647 : Int32)) % ((p0 &&& (7 : Int32)) + (1 : Int32)))), .val (.int (((p3.toUInt32 >>> ((1 : Int32) &&& 31).toUInt32).toInt32) &&& (255 : Int32))), .val (.int (0 : Int32)), .val (.ref b3), .unset, .unset, .unset, .unset, .unset] [])) _
      refine XS.aconstNull X84.here hx rfl (hb hby at_59) ?_
      show Steps p.tables e below (T84.setTop (mkF m 60 #[.val (.int p0), .val (.int p1), .val (.int p2), .val (.int p3), .val (.int ((p0 &&& (7 : Int32)) + (1 : Int32))), .val (.int ((p1 &&& (2147483647 : Int32)) % ((p0 &&& (7 : Int32)) + (1 : Int32)))), .val (.int ((p2 &&& (2147483647 : Int32)) % ((p0 &&& (7 : Int32)) + (1 : Int32)))), .val (.int (((p3.toUInt32 >>> ((1 : Int32) &&& 31).toUInt32).toInt32) &&& (255 : Int32))), .val (.int (0 : Int32)), .val (.ref b3), .unset, .unset, .unset, .unset, .unset] [.null])) _
      refine XS.astore X84.here hx rfl (hb hby at_60) rfl rfl (l' := #[.val (.int p0), .val (.int p1), .val (.int p2), .val (.int p3), .val (.int ((p0 &&& (7 : Int32)) + (1 : Int32))), .val (.int ((p1 &&& (2147483647 : Int32)) % ((p0 &&& (7 : Int32)) + (1 : Int32)))), .val (.int ((p2 &&& (2147483647 : Int32)) % ((p0 &&& (7 : Int32)) + (1 : Int32)))), .val (.int (((p3.toUInt32 >>> ((1 : Int32) &&& 31).toUInt32).toInt32) &&& (255 : Int32))), .val (.int (0 : Int32)), .val (.ref b3), .val .null, .unset, .unset, .unset, .unset]) rfl ?_
      show Steps p.tables e below (T84.setTop (mkF m 62 #[.val (.int p0), .val (.int p1), .val (.int p2), .val (.int p3), .val (.int ((p0 &&& (7 : Int32)) + (1 : Int32))), .val (.int ((p1 &&& (2147483647 : Int32)) % ((p0 &&& (7 : Int32)) + (1 : Int32)))), .val (.int ((p2 &&& (2147483647 : Int32)) % ((p0 &&& (7 : Int32)) + (1 : Int32)))), .val (.int (((p3.toUInt32 >>> ((1 : Int32) &&& 31).toUInt32).toInt32) &&& (255 : Int32))), .val (.int (0 : Int32)), .val (.ref b3), .val .null, .unset, .unset, .unset, .unset] [])) _
      refine XS.iload X84.here hx rfl (hb hby at_62) rfl ?_
      show Steps p.tables e below (T84.setTop (mkF m 64 #[.val (.int p0), .val (.int p1), .val (.int p2), .val (.int p3), .val (.int ((p0 &&& (7 : Int32)) + (1 : Int32))), .val (.int ((p1 &&& (2147483647 : Int32)) % ((p0 &&& (7 : Int32)) + (1 : Int32)))), .val (.int ((p2 &&& (2147483647 : Int32)) % ((p0 &&& (7 : Int32)) + (1 : Int32)))), .val (.int (((p3.toUInt32 >>> ((1 : Int32) &&& 31).toUInt32).toInt32) &&& (255 : Int32))), .val (.int (0 : Int32)), .val (.ref b3), .val .null, .unset, .unset, .unset, .unset] [(.int (0 : Int32))])) _
      refine XS.ifYes X84.here hx rfl (pc0 := 64) (pc' := 86) rfl (hb hby at_64) rfl ((if0 _ _).trans (teq (by decide : ((0 : Int32) = (0 : Int32)))).1) (by decide) (by decide) ?_
      show Steps p.tables e below (T84.setTop (mkF m 86 #[.val (.int p0), .val (.int p1), .val (.int p2), .val (.int p3), .val (.int ((p0 &&& (7 : Int32)) + (1 : Int32))), .val (.int ((p1 &&& (2147483647 : Int32)) % ((p0 &&& (7 : Int32)) + (1 : Int32)))), .val (.int ((p2 &&& (2147483647 : Int32)) % ((p0 &&& (7 : Int32)) + (1 : Int32)))), .val (.int (((p3.toUInt32 >>> ((1 : Int32) &&& 31).toUInt32).toInt32) &&& (255 : Int32))), .val (.int (0 : Int32)), .val (.ref b3), .val .null, .unset, .unset, .unset, .unset] [])) _
      refine XS.aload X84.here hx rfl (hb hby at_86) rfl rfl ?_
      show Steps p.tables e below (T84.setTop (mkF m 88 #[.val (.int p0), .val (.int p1), .val (.int p2), .val (.int p3), .val (.int ((p0 &&& (7 : Int32)) + (1 : Int32))), .val (.int ((p1 &&& (2147483647 : Int32)) % ((p0 &&& (7 : Int32)) + (1 : Int32)))), .val (.int ((p2 &&& (2147483647 : Int32)) % ((p0 &&& (7 : Int32)) + (1 : Int32)))), .val (.int (((p3.toUInt32 >>> ((1 : Int32) &&& 31).toUInt32).toInt32) &&& (255 : Int32))), .val (.int (0 : Int32)), .val (.ref b3), .val .null, .unset, .unset, .unset, .unset] [(.ref b3)])) _
      refine XS.iload X84.here hx rfl (hb hby at_88) rfl ?_
      show Steps p.tables e below (T84.setTop (mkF m 90 #[.val (.int p0), .val (.int p1), .val (.int p2), .val (.int p3), .val (.int ((p0 &&& (7 : Int32)) + (1 : Int32))), .val (.int ((p1 &&& (2147483647 : Int32)) % ((p0 &&& (7 : Int32)) + (1 : Int32)))), .val (.int ((p2 &&& (2147483647 : Int32)) % ((p0 &&& (7 : Int32)) + (1 : Int32)))), .val (.int (((p3.toUInt32 >>> ((1 : Int32) &&& 31).toUInt32).toInt32) &&& (255 : Int32))), .val (.int (0 : Int32)), .val (.ref b3), .val .null, .unset, .unset, .unset, .unset] [(.int ((p1 &&& (2147483647 : Int32)) % ((p0 &&& (7 : Int32)) + (1 : Int32)))), (.ref b3)])) _
      refine st168.trans ?_
      show Steps p.tables e below (T168.setTop (mkF m 93 #[.val (.int p0), .val (.int p1), .val (.int p2), .val (.int p3), .val (.int ((p0 &&& (7 : Int32)) + (1 : Int32))), .val (.int ((p1 &&& (2147483647 : Int32)) % ((p0 &&& (7 : Int32)) + (1 : Int32)))), .val (.int ((p2 &&& (2147483647 : Int32)) % ((p0 &&& (7 : Int32)) + (1 : Int32)))), .val (.int (((p3.toUInt32 >>> ((1 : Int32) &&& 31).toUInt32).toInt32) &&& (255 : Int32))), .val (.int (0 : Int32)), .val (.ref b3), .val .null, .unset, .unset, .unset, .unset] [(.ref b92_168)])) _
      refine XS.astore X168.here hx rfl (hb hby at_93) rfl rfl (l' := #[.val (.int p0), .val (.int p1), .val (.int p2), .val (.int p3), .val (.int ((p0 &&& (7 : Int32)) + (1 : Int32))), .val (.int ((p1 &&& (2147483647 : Int32)) % ((p0 &&& (7 : Int32)) + (1 : Int32)))), .val (.int ((p2 &&& (2147483647 : Int32)) % ((p0 &&& (7 : Int32)) + (1 : Int32)))), .val (.int (((p3.toUInt32 >>> ((1 : Int32) &&& 31).toUInt32).toInt32) &&& (255 : Int32))), .val (.int (0 : Int32)), .val (.ref b3), .val .null, .val (.ref b92_168), .unset, .unset, .unset]) rfl ?_
      show Steps p.tables e below (T168.setTop (mkF m 95 #[.val (.int p0), .val (.int p1), .val (.int p2), .val (.int p3), .val (.int ((p0 &&& (7 : Int32)) + (1 : Int32))), .val (.int ((p1 &&& (2147483647 : Int32)) % ((p0 &&& (7 : Int32)) + (1 : Int32)))), .val (.int ((p2 &&& (2147483647 : Int32)) % ((p0 &&& (7 : Int32)) + (1 : Int32)))), .val (.int (((p3.toUInt32 >>> ((1 : Int32) &&& 31).toUInt32).toInt32) &&& (255 : Int32))), .val (.int (0 : Int32)), .val (.ref b3), .val .null, .val (.ref b92_168), .unset, .unset, .unset] [])) _
      refine XS.aload X168.here hx rfl (hb hby at_95) rfl rfl ?_
      show Steps p.tables e below (T168.setTop (mkF m 97 #[.val (.int p0), .val (.int p1), .val (.int p2), .val (.int p3), .val (.int ((p0 &&& (7 : Int32)) + (1 : Int32))), .val (.int ((p1 &&& (2147483647 : Int32)) % ((p0 &&& (7 : Int32)) + (1 : Int32)))), .val (.int ((p2 &&& (2147483647 : Int32)) % ((p0 &&& (7 : Int32)) + (1 : Int32)))), .val (.int (((p3.toUInt32 >>> ((1 : Int32) &&& 31).toUInt32).toInt32) &&& (255 : Int32))), .val (.int (0 : Int32)), .val (.ref b3), .val .null, .val (.ref b92_168), .unset, .unset, .unset] [(.ref b92_168)])) _
      refine XS.ifnullNo X168.here hx rfl (hb hby at_97) rfl ?_
      show Steps p.tables e below (T168.setTop (mkF m 100 #[.val (.int p0), .val (.int p1), .val (.int p2), .val (.int p3), .val (.int ((p0 &&& (7 : Int32)) + (1 : Int32))), .val (.int ((p1 &&& (2147483647 : Int32)) % ((p0 &&& (7 : Int32)) + (1 : Int32)))), .val (.int ((p2 &&& (2147483647 : Int32)) % ((p0 &&& (7 : Int32)) + (1 : Int32)))), .val (.int (((p3.toUInt32 >>> ((1 : Int32) &&& 31).toUInt32).toInt32) &&& (255 : Int32))), .val (.int (0 : Int32)), .val (.ref b3), .val .null, .val (.ref b92_168), .unset, .unset, .unset] [])) _
      refine XS.aload X168.here hx rfl (hb hby at_100) rfl rfl ?_
      show Steps p.tables e below (T168.setTop (mkF m 102 #[.val (.int p0), .val (.int p1), .val (.int p2), .val (.int p3), .val (.int ((p0 &&& (7 : Int32)) + (1 : Int32))), .val (.int ((p1 &&& (2147483647 : Int32)) % ((p0 &&& (7 : Int32)) + (1 : Int32)))), .val (.int ((p2 &&& (2147483647 : Int32)) % ((p0 &&& (7 : Int32)) + (1 : Int32)))), .val (.int (((p3.toUInt32 >>> ((1 : Int32) &&& 31).toUInt32).toInt32) &&& (255 : Int32))), .val (.int (0 : Int32)), .val (.ref b3), .val .null, .val (.ref b92_168), .unset, .unset, .unset] [(.ref b3)])) _
      refine st170 _ ?_
      show Steps p.tables e below (T170.setTop (mkF m 105 #[.val (.int p0), .val (.int p1), .val (.int p2), .val (.int p3), .val (.int ((p0 &&& (7 : Int32)) + (1 : Int32))), .val (.int ((p1 &&& (2147483647 : Int32)) % ((p0 &&& (7 : Int32)) + (1 : Int32)))), .val (.int ((p2 &&& (2147483647 : Int32)) % ((p0 &&& (7 : Int32)) + (1 : Int32)))), .val (.int (((p3.toUInt32 >>> ((1 : Int32) &&& 31).toUInt32).toInt32) &&& (255 : Int32))), .val (.int (0 : Int32)), .val (.ref b3), .val .null, .val (.ref b92_168), .unset, .unset, .unset] [(.ref b68_84)])) _
      refine X170.arraylength hx (by rw [e170]; exact Ar171.1) (State.isArrayOf_alike hZ.alike Ar171.2.1) (g := (mkF m 105 #[.val (.int p0), .val (.int p1), .val (.int p2), .val (.int p3), .val (.int ((p0 &&& (7 : Int32)) + (1 : Int32))), .val (.int ((p1 &&& (2147483647 : Int32)) % ((p0 &&& (7 : Int32)) + (1 : Int32)))), .val (.int ((p2 &&& (2147483647 : Int32)) % ((p0 &&& (7 : Int32)) + (1 : Int32)))), .val (.int (((p3.toUInt32 >>> ((1 : Int32) &&& 31).toUInt32).toInt32) &&& (255 : Int32))), .val (.int (0 : Int32)), .val (.ref b3), .val .null, .val (.ref b92_168), .unset, .unset, .unset] [(.ref b68_84)])) rfl rfl (hb hby at_105) _ ?_
      rw [len_of Sa171 Ma171]
      show Steps p.tables e below (T170.setTop (mkF m 106 #[.val (.int p0), .val (.int p1), .val (.int p2), .val (.int p3), .val (.int ((p0 &&& (7 : Int32)) + (1 : Int32))), .val (.int ((p1 &&& (2147483647 : Int32)) % ((p0 &&& (7 : Int32)) + (1 : Int32)))), .val (.int ((p2 &&& (2147483647 : Int32)) % ((p0 &&& (7 : Int32)) + (1 : Int32)))), .val (.int (((p3.toUInt32 >>> ((1 : Int32) &&& 31).toUInt32).toInt32) &&& (255 : Int32))), .val (.int (0 : Int32)), .val (.ref b3), .val .null, .val (.ref b92_168), .unset, .unset, .unset] [(.int ((p0 &&& (7 : Int32)) + (1 : Int32)))])) _
      refine XS.iload X170.here hx rfl (hb hby at_106) rfl ?_
      show Steps p.tables e below (T170.setTop (mkF m 108 #[.val (.int p0), .val (.int p1), .val (.int p2), .val (.int p3), .val (.int ((p0 &&& (7 : Int32)) + (1 : Int32))), .val (.int ((p1 &&& (2147483647 : Int32)) % ((p0 &&& (7 : Int32)) + (1 : Int32)))), .val (.int ((p2 &&& (2147483647 : Int32)) % ((p0 &&& (7 : Int32)) + (1 : Int32)))), .val (.int (((p3.toUInt32 >>> ((1 : Int32) &&& 31).toUInt32).toInt32) &&& (255 : Int32))), .val (.int (0 : Int32)), .val (.ref b3), .val .null, .val (.ref b92_168), .unset, .unset, .unset] [(.int ((p0 &&& (7 : Int32)) + (1 : Int32))), (.int ((p0 &&& (7 : Int32)) + (1 : Int32)))])) _
      refine XS.icmpNo X170.here hx rfl (hb hby at_108) rfl (teq rfl).2 ?_
      show Steps p.tables e below (T170.setTop (mkF m 111 #[.val (.int p0), .val (.int p1), .val (.int p2), .val (.int p3), .val (.int ((p0 &&& (7 : Int32)) + (1 : Int32))), .val (.int ((p1 &&& (2147483647 : Int32)) % ((p0 &&& (7 : Int32)) + (1 : Int32)))), .val (.int ((p2 &&& (2147483647 : Int32)) % ((p0 &&& (7 : Int32)) + (1 : Int32)))), .val (.int (((p3.toUInt32 >>> ((1 : Int32) &&& 31).toUInt32).toInt32) &&& (255 : Int32))), .val (.int (0 : Int32)), .val (.ref b3), .val .null, .val (.ref b92_168), .unset, .unset, .unset] [])) _
      refine XS.aload X170.here hx rfl (hb hby at_111) rfl rfl ?_
      show Steps p.tables e below (T170.setTop (mkF m 113 #[.val (.int p0), .val (.int p1), .val (.int p2), .val (.int p3), .val (.int ((p0 &&& (7 : Int32)) + (1 : Int32))), .val (.int ((p1 &&& (2147483647 : Int32)) % ((p0 &&& (7 : Int32)) + (1 : Int32)))), .val (.int ((p2 &&& (2147483647 : Int32)) % ((p0 &&& (7 : Int32)) + (1 : Int32)))), .val (.int (((p3.toUInt32 >>> ((1 : Int32) &&& 31).toUInt32).toInt32) &&& (255 : Int32))), .val (.int (0 : Int32)), .val (.ref b3), .val .null, .val (.ref b92_168), .unset, .unset, .unset] [(.ref b3)])) _
      refine st172 _ ?_
      show Steps p.tables e below (T172.setTop (mkF m 116 #[.val (.int p0), .val (.int p1), .val (.int p2), .val (.int p3), .val (.int ((p0 &&& (7 : Int32)) + (1 : Int32))), .val (.int ((p1 &&& (2147483647 : Int32)) % ((p0 &&& (7 : Int32)) + (1 : Int32)))), .val (.int ((p2 &&& (2147483647 : Int32)) % ((p0 &&& (7 : Int32)) + (1 : Int32)))), .val (.int (((p3.toUInt32 >>> ((1 : Int32) &&& 31).toUInt32).toInt32) &&& (255 : Int32))), .val (.int (0 : Int32)), .val (.ref b3), .val .null, .val (.ref b92_168), .unset, .unset, .unset] [(.ref b68_84)])) _
      refine XS.iload X172.here hx rfl (hb hby at_116) rfl ?_
      show Steps p.tables e below (T172.setTop (mkF m 118 #[.val (.int p0), .val (.int p1), .val (.int p2), .val (.int p3), .val (.int ((p0 &&& (7 : Int32)) + (1 : Int32))), .val (.int ((p1 &&& (2147483647 : Int32)) % ((p0 &&& (7 : Int32)) + (1 : Int32)))), .val (.int ((p2 &&& (2147483647 : Int32)) % ((p0 &&& (7 : Int32)) + (1 : Int32)))), .val (.int (((p3.toUInt32 >>> ((1 : Int32) &&& 31).toUInt32).toInt32) &&& (255 : Int32))), .val (.int (0 : Int32)), .val (.ref b3), .val .null, .val (.ref b92_168), .unset, .unset, .unset] [(.int ((p1 &&& (2147483647 : Int32)) % ((p0 &&& (7 : Int32)) + (1 : Int32)))), (.ref b68_84)])) _
      refine X172.aaload hx (j := ((p1 &&& (2147483647 : Int32)) % ((p0 &&& (7 : Int32)) + (1 : Int32)))) (v := (.ref b92_168)) (by rw [e172]; exact Ar173.1) (State.isArrayOf_alike hZ.alike Ar173.2.1) rfl Ar173.2.2 hin173 hat173 (g := (mkF m 118 #[.val (.int p0), .val (.int p1), .val (.int p2), .val (.int p3), .val (.int ((p0 &&& (7 : Int32)) + (1 : Int32))), .val (.int ((p1 &&& (2147483647 : Int32)) % ((p0 &&& (7 : Int32)) + (1 : Int32)))), .val (.int ((p2 &&& (2147483647 : Int32)) % ((p0 &&& (7 : Int32)) + (1 : Int32)))), .val (.int (((p3.toUInt32 >>> ((1 : Int32) &&& 31).toUInt32).toInt32) &&& (255 : Int32))), .val (.int (0 : Int32)), .val (.ref b3), .val .null, .val (.ref b92_168), .unset, .unset, .unset] [(.int ((p1 &&& (2147483647 : Int32)) % ((p0 &&& (7 : Int32)) + (1 : Int32)))), (.ref b68_84)])) rfl rfl (hb hby at_118) _ ?_
      show Steps p.tables e below (T172.setTop (mkF m 119 #[.val (.int p0), .val (.int p1), .val (.int p2), .val (.int p3), .val (.int ((p0 &&& (7 : Int32)) + (1 : Int32))), .val (.int ((p1 &&& (2147483647 : Int32)) % ((p0 &&& (7 : Int32)) + (1 : Int32)))), .val (.int ((p2 &&& (2147483647 : Int32)) % ((p0 &&& (7 : Int32)) + (1 : Int32)))), .val (.int (((p3.toUInt32 >>> ((1 : Int32) &&& 31).toUInt32).toInt32) &&& (255 : Int32))), .val (.int (0 : Int32)), .val (.ref b3), .val .null, .val (.ref b92_168), .unset, .unset, .unset] [(.ref b92_168)])) _
      refine XS.aload X172.here hx rfl (hb hby at_119) rfl rfl ?_
      show Steps p.tables e below (T172.setTop (mkF m 121 #[.val (.int p0), .val (.int p1), .val (.int p2), .val (.int p3), .val (.int ((p0 &&& (7 : Int32)) + (1 : Int32))), .val (.int ((p1 &&& (2147483647 : Int32)) % ((p0 &&& (7 : Int32)) + (1 : Int32)))), .val (.int ((p2 &&& (2147483647 : Int32)) % ((p0 &&& (7 : Int32)) + (1 : Int32)))), .val (.int (((p3.toUInt32 >>> ((1 : Int32) &&& 31).toUInt32).toInt32) &&& (255 : Int32))), .val (.int (0 : Int32)), .val (.ref b3), .val .null, .val (.ref b92_168), .unset, .unset, .unset] [(.ref b92_168), (.ref b92_168)])) _
      refine Jvm.RoadKit.acmp (g := (mkF m 121 #[.val (.int p0), .val (.int p1), .val (.int p2), .val (.int p3), .val (.int ((p0 &&& (7 : Int32)) + (1 : Int32))), .val (.int ((p1 &&& (2147483647 : Int32)) % ((p0 &&& (7 : Int32)) + (1 : Int32)))), .val (.int ((p2 &&& (2147483647 : Int32)) % ((p0 &&& (7 : Int32)) + (1 : Int32)))), .val (.int (((p3.toUInt32 >>> ((1 : Int32) &&& 31).toUInt32).toInt32) &&& (255 : Int32))), .val (.int (0 : Int32)), .val (.ref b3), .val .null, .val (.ref b92_168), .unset, .unset, .unset] [(.ref b92_168), (.ref b92_168)])) X172 hx rfl rfl rfl (pc0 := 121) (pc' := 124) (same := true) rfl (hb hby at_121) rfl (decide_eq_true (congrArg Value.ref rfl)) (by decide) (by decide) ?_
      show Steps p.tables e below (T172.setTop (mkF m 124 #[.val (.int p0), .val (.int p1), .val (.int p2), .val (.int p3), .val (.int ((p0 &&& (7 : Int32)) + (1 : Int32))), .val (.int ((p1 &&& (2147483647 : Int32)) % ((p0 &&& (7 : Int32)) + (1 : Int32)))), .val (.int ((p2 &&& (2147483647 : Int32)) % ((p0 &&& (7 : Int32)) + (1 : Int32)))), .val (.int (((p3.toUInt32 >>> ((1 : Int32) &&& 31).toUInt32).toInt32) &&& (255 : Int32))), .val (.int (0 : Int32)), .val (.ref b3), .val .null, .val (.ref b92_168), .unset, .unset, .unset] [])) _
      refine XS.iconst X172.here hx rfl (hb hby at_124) ?_
      show Steps p.tables e below (T172.setTop (mkF m 125 #[.val (.int p0), .val (.int p1), .val (.int p2), .val (.int p3), .val (.int ((p0 &&& (7 : Int32)) + (1 : Int32))), .val (.int ((p1 &&& (2147483647 : Int32)) % ((p0 &&& (7 : Int32)) + (1 : Int32)))), .val (.int ((p2 &&& (2147483647 : Int32)) % ((p0 &&& (7 : Int32)) + (1 : Int32)))), .val (.int (((p3.toUInt32 >>> ((1 : Int32) &&& 31).toUInt32).toInt32) &&& (255 : Int32))), .val (.int (0 : Int32)), .val (.ref b3), .val .null, .val (.ref b92_168), .unset, .unset, .unset] [(.int (1 : Int32))])) _
      refine XS.goto X172.here hx rfl (pc0 := 125) (pc' := 129) rfl (hb hby at_125) (by decide) (by decide) ?_
      show Steps p.tables e below (T172.setTop (mkF m 129 #[.val (.int p0), .val (.int p1), .val (.int p2), .val (.int p3), .val (.int ((p0 &&& (7 : Int32)) + (1 : Int32))), .val (.int ((p1 &&& (2147483647 : Int32)) % ((p0 &&& (7 : Int32)) + (1 : Int32)))), .val (.int ((p2 &&& (2147483647 : Int32)) % ((p0 &&& (7 : Int32)) + (1 : Int32)))), .val (.int (((p3.toUInt32 >>> ((1 : Int32) &&& 31).toUInt32).toInt32) &&& (255 : Int32))), .val (.int (0 : Int32)), .val (.ref b3), .val .null, .val (.ref b92_168), .unset, .unset, .unset] [(.int (1 : Int32))])) _
      refine XS.istore X172.here hx rfl (hb hby at_129) rfl (l' := #[.val (.int p0), .val (.int p1), .val (.int p2), .val (.int p3), .val (.int ((p0 &&& (7 : Int32)) + (1 : Int32))), .val (.int ((p1 &&& (2147483647 : Int32)) % ((p0 &&& (7 : Int32)) + (1 : Int32)))), .val (.int ((p2 &&& (2147483647 : Int32)) % ((p0 &&& (7 : Int32)) + (1 : Int32)))), .val (.int (((p3.toUInt32 >>> ((1 : Int32) &&& 31).toUInt32).toInt32) &&& (255 : Int32))), .val (.int (0 : Int32)), .val (.ref b3), .val .null, .val (.ref b92_168), .val (.int (1 : Int32)), .unset, .unset]) rfl ?_
      show Steps p.tables e below (T172.setTop (mkF m 131 #[.val (.int p0), .val (.int p1), .val (.int p2), .val (.int p3), .val (.int ((p0 &&& (7 : Int32)) + (1 : Int32))), .val (.int ((p1 &&& (2147483647 : Int32)) % ((p0 &&& (7 : Int32)) + (1 : Int32)))), .val (.int ((p2 &&& (2147483647 : Int32)) % ((p0 &&& (7 : Int32)) + (1 : Int32)))), .val (.int (((p3.toUInt32 >>> ((1 : Int32) &&& 31).toUInt32).toInt32) &&& (255 : Int32))), .val (.int (0 : Int32)), .val (.ref b3), .val .null, .val (.ref b92_168), .val (.int (1 : Int32)), .unset, .unset] [])) _
      refine XS.iload X172.here hx rfl (hb hby at_131) rfl ?_
      show Steps p.tables e below (T172.setTop (mkF m 133 #[.val (.int p0), .val (.int p1), .val (.int p2), .val (.int p3), .val (.int ((p0 &&& (7 : Int32)) + (1 : Int32))), .val (.int ((p1 &&& (2147483647 : Int32)) % ((p0 &&& (7 : Int32)) + (1 : Int32)))), .val (.int ((p2 &&& (2147483647 : Int32)) % ((p0 &&& (7 : Int32)) + (1 : Int32)))), .val (.int (((p3.toUInt32 >>> ((1 : Int32) &&& 31).toUInt32).toInt32) &&& (255 : Int32))), .val (.int (0 : Int32)), .val (.ref b3), .val .null, .val (.ref b92_168), .val (.int (1 : Int32)), .unset, .unset] [(.int (0 : Int32))])) _
      refine XS.ifYes X172.here hx rfl (pc0 := 133) (pc' := 155) rfl (hb hby at_133) rfl ((if0 _ _).trans (teq (by decide : ((0 : Int32) = (0 : Int32)))).1) (by decide) (by decide) ?_
      show Steps p.tables e below (T172.setTop (mkF m 155 #[.val (.int p0), .val (.int p1), .val (.int p2), .val (.int p3), .val (.int ((p0 &&& (7 : Int32)) + (1 : Int32))), .val (.int ((p1 &&& (2147483647 : Int32)) % ((p0 &&& (7 : Int32)) + (1 : Int32)))), .val (.int ((p2 &&& (2147483647 : Int32)) % ((p0 &&& (7 : Int32)) + (1 : Int32)))), .val (.int (((p3.toUInt32 >>> ((1 : Int32) &&& 31).toUInt32).toInt32) &&& (255 : Int32))), .val (.int (0 : Int32)), .val (.ref b3), .val .null, .val (.ref b92_168), .val (.int (1 : Int32)), .unset, .unset] [])) _
      refine XS.aload X172.here hx rfl (hb hby at_155) rfl rfl ?_
      show Steps p.tables e below (T172.setTop (mkF m 157 #[.val (.int p0), .val (.int p1), .val (.int p2), .val (.int p3), .val (.int ((p0 &&& (7 : Int32)) + (1 : Int32))), .val (.int ((p1 &&& (2147483647 : Int32)) % ((p0 &&& (7 : Int32)) + (1 : Int32)))), .val (.int ((p2 &&& (2147483647 : Int32)) % ((p0 &&& (7 : Int32)) + (1 : Int32)))), .val (.int (((p3.toUInt32 >>> ((1 : Int32) &&& 31).toUInt32).toInt32) &&& (255 : Int32))), .val (.int (0 : Int32)), .val (.ref b3), .val .null, .val (.ref b92_168), .val (.int (1 : Int32)), .unset, .unset] [(.ref b3)])) _
      refine XS.iload X172.here hx rfl (hb hby at_157) rfl ?_
      show Steps p.tables e below (T172.setTop (mkF m 159 #[.val (.int p0), .val (.int p1), .val (.int p2), .val (.int p3), .val (.int ((p0 &&& (7 : Int32)) + (1 : Int32))), .val (.int ((p1 &&& (2147483647 : Int32)) % ((p0 &&& (7 : Int32)) + (1 : Int32)))), .val (.int ((p2 &&& (2147483647 : Int32)) % ((p0 &&& (7 : Int32)) + (1 : Int32)))), .val (.int (((p3.toUInt32 >>> ((1 : Int32) &&& 31).toUInt32).toInt32) &&& (255 : Int32))), .val (.int (0 : Int32)), .val (.ref b3), .val .null, .val (.ref b92_168), .val (.int (1 : Int32)), .unset, .unset] [(.int ((p1 &&& (2147483647 : Int32)) % ((p0 &&& (7 : Int32)) + (1 : Int32)))), (.ref b3)])) _
      refine st184.trans ?_
      show Steps p.tables e below (T184.setTop (mkF m 162 #[.val (.int p0), .val (.int p1), .val (.int p2), .val (.int p3), .val (.int ((p0 &&& (7 : Int32)) + (1 : Int32))), .val (.int ((p1 &&& (2147483647 : Int32)) % ((p0 &&& (7 : Int32)) + (1 : Int32)))), .val (.int ((p2 &&& (2147483647 : Int32)) % ((p0 &&& (7 : Int32)) + (1 : Int32)))), .val (.int (((p3.toUInt32 >>> ((1 : Int32) &&& 31).toUInt32).toInt32) &&& (255 : Int32))), .val (.int (0 : Int32)), .val (.ref b3), .val .null, .val (.ref b92_168), .val (.int (1 : Int32)), .unset, .unset] [(.ref b92_168)])) _
      refine XS.astore X184.here hx rfl (hb hby at_162) rfl rfl (l' := #[.val (.int p0), .val (.int p1), .val (.int p2), .val (.int p3), .val (.int ((p0 &&& (7 : Int32)) + (1 : Int32))), .val (.int ((p1 &&& (2147483647 : Int32)) % ((p0 &&& (7 : Int32)) + (1 : Int32)))), .val (.int ((p2 &&& (2147483647 : Int32)) % ((p0 &&& (7 : Int32)) + (1 : Int32)))), .val (.int (((p3.toUInt32 >>> ((1 : Int32) &&& 31).toUInt32).toInt32) &&& (255 : Int32))), .val (.int (0 : Int32)), .val (.ref b3), .val .null, .val (.ref b92_168), .val (.int (1 : Int32)), .val (.ref b92_168), .unset]) rfl ?_
      show Steps p.tables e below (T184.setTop (mkF m 164 #[.val (.int p0), .val (.int p1), .val (.int p2), .val (.int p3), .val (.int ((p0 &&& (7 : Int32)) + (1 : Int32))), .val (.int ((p1 &&& (2147483647 : Int32)) % ((p0 &&& (7 : Int32)) + (1 : Int32)))), .val (.int ((p2 &&& (2147483647 : Int32)) % ((p0 &&& (7 : Int32)) + (1 : Int32)))), .val (.int (((p3.toUInt32 >>> ((1 : Int32) &&& 31).toUInt32).toInt32) &&& (255 : Int32))), .val (.int (0 : Int32)), .val (.ref b3), .val .null, .val (.ref b92_168), .val (.int (1 : Int32)), .val (.ref b92_168), .unset] [])) _
      refine XS.iload X184.here hx rfl (hb hby at_164) rfl ?_
      show Steps p.tables e below (T184.setTop (mkF m 166 #[.val (.int p0), .val (.int p1), .val (.int p2), .val (.int p3), .val (.int ((p0 &&& (7 : Int32)) + (1 : Int32))), .val (.int ((p1 &&& (2147483647 : Int32)) % ((p0 &&& (7 : Int32)) + (1 : Int32)))), .val (.int ((p2 &&& (2147483647 : Int32)) % ((p0 &&& (7 : Int32)) + (1 : Int32)))), .val (.int (((p3.toUInt32 >>> ((1 : Int32) &&& 31).toUInt32).toInt32) &&& (255 : Int32))), .val (.int (0 : Int32)), .val (.ref b3), .val .null, .val (.ref b92_168), .val (.int (1 : Int32)), .val (.ref b92_168), .unset] [(.int (1 : Int32))])) _
      refine XS.ifNo X184.here hx rfl (hb hby at_166) rfl ((if0 _ _).trans (feq (by decide : ¬ ((1 : Int32) = (0 : Int32)))).1) ?_
      show Steps p.tables e below (T184.setTop (mkF m 169 #[.val (.int p0), .val (.int p1), .val (.int p2), .val (.int p3), .val (.int ((p0 &&& (7 : Int32)) + (1 : Int32))), .val (.int ((p1 &&& (2147483647 : Int32)) % ((p0 &&& (7 : Int32)) + (1 : Int32)))), .val (.int ((p2 &&& (2147483647 : Int32)) % ((p0 &&& (7 : Int32)) + (1 : Int32)))), .val (.int (((p3.toUInt32 >>> ((1 : Int32) &&& 31).toUInt32).toInt32) &&& (255 : Int32))), .val (.int (0 : Int32)), .val (.ref b3), .val .null, .val (.ref b92_168), .val (.int (1 : Int32)), .val (.ref b92_168), .unset] [])) _
      refine XS.aload X184.here hx rfl (hb hby at_169) rfl rfl ?_
      show Steps p.tables e below (T184.setTop (mkF m 171 #[.val (.int p0), .val (.int p1), .val (.int p2), .val (.int p3), .val (.int ((p0 &&& (7 : Int32)) + (1 : Int32))), .val (.int ((p1 &&& (2147483647 : Int32)) % ((p0 &&& (7 : Int32)) + (1 : Int32)))), .val (.int ((p2 &&& (2147483647 : Int32)) % ((p0 &&& (7 : Int32)) + (1 : Int32)))), .val (.int (((p3.toUInt32 >>> ((1 : Int32) &&& 31).toUInt32).toInt32) &&& (255 : Int32))), .val (.int (0 : Int32)), .val (.ref b3), .val .null, .val (.ref b92_168), .val (.int (1 : Int32)), .val (.ref b92_168), .unset] [(.ref b92_168)])) _
      refine XS.aload X184.here hx rfl (hb hby at_171) rfl rfl ?_
      show Steps p.tables e below (T184.setTop (mkF m 173 #[.val (.int p0), .val (.int p1), .val (.int p2), .val (.int p3), .val (.int ((p0 &&& (7 : Int32)) + (1 : Int32))), .val (.int ((p1 &&& (2147483647 : Int32)) % ((p0 &&& (7 : Int32)) + (1 : Int32)))), .val (.int ((p2 &&& (2147483647 : Int32)) % ((p0 &&& (7 : Int32)) + (1 : Int32)))), .val (.int (((p3.toUInt32 >>> ((1 : Int32) &&& 31).toUInt32).toInt32) &&& (255 : Int32))), .val (.int (0 : Int32)), .val (.ref b3), .val .null, .val (.ref b92_168), .val (.int (1 : Int32)), .val (.ref b92_168), .unset] [(.ref b92_168), (.ref b92_168)])) _
      refine Jvm.RoadKit.acmp (g := (mkF m 173 #[.val (.int p0), .val (.int p1), .val (.int p2), .val (.int p3), .val (.int ((p0 &&& (7 : Int32)) + (1 : Int32))), .val (.int ((p1 &&& (2147483647 : Int32)) % ((p0 &&& (7 : Int32)) + (1 : Int32)))), .val (.int ((p2 &&& (2147483647 : Int32)) % ((p0 &&& (7 : Int32)) + (1 : Int32)))), .val (.int (((p3.toUInt32 >>> ((1 : Int32) &&& 31).toUInt32).toInt32) &&& (255 : Int32))), .val (.int (0 : Int32)), .val (.ref b3), .val .null, .val (.ref b92_168), .val (.int (1 : Int32)), .val (.ref b92_168), .unset] [(.ref b92_168), (.ref b92_168)])) X184 hx rfl rfl rfl (pc0 := 173) (pc' := 176) (same := true) rfl (hb hby at_173) rfl (decide_eq_true (congrArg Value.ref rfl)) (by decide) (by decide) ?_
      show Steps p.tables e below (T184.setTop (mkF m 176 #[.val (.int p0), .val (.int p1), .val (.int p2), .val (.int p3), .val (.int ((p0 &&& (7 : Int32)) + (1 : Int32))), .val (.int ((p1 &&& (2147483647 : Int32)) % ((p0 &&& (7 : Int32)) + (1 : Int32)))), .val (.int ((p2 &&& (2147483647 : Int32)) % ((p0 &&& (7 : Int32)) + (1 : Int32)))), .val (.int (((p3.toUInt32 >>> ((1 : Int32) &&& 31).toUInt32).toInt32) &&& (255 : Int32))), .val (.int (0 : Int32)), .val (.ref b3), .val .null, .val (.ref b92_168), .val (.int (1 : Int32)), .val (.ref b92_168), .unset] [])) _
      refine XS.aload X184.here hx rfl (hb hby at_176) rfl rfl ?_
      show Steps p.tables e below (T184.setTop (mkF m 178 #[.val (.int p0), .val (.int p1), .val (.int p2), .val (.int p3), .val (.int ((p0 &&& (7 : Int32)) + (1 : Int32))), .val (.int ((p1 &&& (2147483647 : Int32)) % ((p0 &&& (7 : Int32)) + (1 : Int32)))), .val (.int ((p2 &&& (2147483647 : Int32)) % ((p0 &&& (7 : Int32)) + (1 : Int32)))), .val (.int (((p3.toUInt32 >>> ((1 : Int32) &&& 31).toUInt32).toInt32) &&& (255 : Int32))), .val (.int (0 : Int32)), .val (.ref b3), .val .null, .val (.ref b92_168), .val (.int (1 : Int32)), .val (.ref b92_168), .unset] [(.ref b3)])) _
      refine st186 _ ?_
      show Steps p.tables e below (T186.setTop (mkF m 181 #[.val (.int p0), .val (.int p1), .val (.int p2), .val (.int p3), .val (.int ((p0 &&& (7 : Int32)) + (1 : Int32))), .val (.int ((p1 &&& (2147483647 : Int32)) % ((p0 &&& (7 : Int32)) + (1 : Int32)))), .val (.int ((p2 &&& (2147483647 : Int32)) % ((p0 &&& (7 : Int32)) + (1 : Int32)))), .val (.int (((p3.toUInt32 >>> ((1 : Int32) &&& 31).toUInt32).toInt32) &&& (255 : Int32))), .val (.int (0 : Int32)), .val (.ref b3), .val .null, .val (.ref b92_168), .val (.int (1 : Int32)), .val (.ref b92_168), .unset] [(.ref b68_84)])) _
      refine XS.iload X186.here hx rfl (hb hby at_181) rfl ?_
      show Steps p.tables e below (T186.setTop (mkF m 183 #[.val (.int p0), .val (.int p1), .val (.int p2), .val (.int p3), .val (.int ((p0 &&& (7 : Int32)) + (1 : Int32))), .val (.int ((p1 &&& (2147483647 : Int32)) % ((p0 &&& (7 : Int32)) + (1 : Int32)))), .val (.int ((p2 &&& (2147483647 : Int32)) % ((p0 &&& (7 : Int32)) + (1 : Int32)))), .val (.int (((p3.toUInt32 >>> ((1 : Int32) &&& 31).toUInt32).toInt32) &&& (255 : Int32))), .val (.int (0 : Int32)), .val (.ref b3), .val .null, .val (.ref b92_168), .val (.int (1 : Int32)), .val (.ref b92_168), .unset] [(.int ((p1 &&& (2147483647 : Int32)) % ((p0 &&& (7 : Int32)) + (1 : Int32)))), (.ref b68_84)])) _
      refine X186.aaload hx (j := ((p1 &&& (2147483647 : Int32)) % ((p0 &&& (7 : Int32)) + (1 : Int32)))) (v := (.ref b92_168)) (by rw [e186]; exact Ar188.1) (State.isArrayOf_alike hZ.alike Ar188.2.1) rfl Ar188.2.2 hin188 hat188 (g := (mkF m 183 #[.val (.int p0), .val (.int p1), .val (.int p2), .val (.int p3), .val (.int ((p0 &&& (7 : Int32)) + (1 : Int32))), .val (.int ((p1 &&& (2147483647 : Int32)) % ((p0 &&& (7 : Int32)) + (1 : Int32)))), .val (.int ((p2 &&& (2147483647 : Int32)) % ((p0 &&& (7 : Int32)) + (1 : Int32)))), .val (.int (((p3.toUInt32 >>> ((1 : Int32) &&& 31).toUInt32).toInt32) &&& (255 : Int32))), .val (.int (0 : Int32)), .val (.ref b3), .val .null, .val (.ref b92_168), .val (.int (1 : Int32)), .val (.ref b92_168), .unset] [(.int ((p1 &&& (2147483647 : Int32)) % ((p0 &&& (7 : Int32)) + (1 : Int32)))), (.ref b68_84)])) rfl rfl (hb hby at_183) _ ?_
      show Steps p.tables e below (T186.setTop (mkF m 184 #[.val (.int p0), .val (.int p1), .val (.int p2), .val (.int p3), .val (.int ((p0 &&& (7 : Int32)) + (1 : Int32))), .val (.int ((p1 &&& (2147483647 : Int32)) % ((p0 &&& (7 : Int32)) + (1 : Int32)))), .val (.int ((p2 &&& (2147483647 : Int32)) % ((p0 &&& (7 : Int32)) + (1 : Int32)))), .val (.int (((p3.toUInt32 >>> ((1 : Int32) &&& 31).toUInt32).toInt32) &&& (255 : Int32))), .val (.int (0 : Int32)), .val (.ref b3), .val .null, .val (.ref b92_168), .val (.int (1 : Int32)), .val (.ref b92_168), .unset] [(.ref b92_168)])) _
      refine XS.aload X186.here hx rfl (hb hby at_184) rfl rfl ?_
      show Steps p.tables e below (T186.setTop (mkF m 186 #[.val (.int p0), .val (.int p1), .val (.int p2), .val (.int p3), .val (.int ((p0 &&& (7 : Int32)) + (1 : Int32))), .val (.int ((p1 &&& (2147483647 : Int32)) % ((p0 &&& (7 : Int32)) + (1 : Int32)))), .val (.int ((p2 &&& (2147483647 : Int32)) % ((p0 &&& (7 : Int32)) + (1 : Int32)))), .val (.int (((p3.toUInt32 >>> ((1 : Int32) &&& 31).toUInt32).toInt32) &&& (255 : Int32))), .val (.int (0 : Int32)), .val (.ref b3), .val .null, .val (.ref b92_168), .val (.int (1 : Int32)), .val (.ref b92_168), .unset] [(.ref b92_168), (.ref b92_168)])) _
      refine Jvm.RoadKit.acmp (g := (mkF m 186 #[.val (.int p0), .val (.int p1), .val (.int p2), .val (.int p3), .val (.int ((p0 &&& (7 : Int32)) + (1 : Int32))), .val (.int ((p1 &&& (2147483647 : Int32)) % ((p0 &&& (7 : Int32)) + (1 : Int32)))), .val (.int ((p2 &&& (2147483647 : Int32)) % ((p0 &&& (7 : Int32)) + (1 : Int32)))), .val (.int (((p3.toUInt32 >>> ((1 : Int32) &&& 31).toUInt32).toInt32) &&& (255 : Int32))), .val (.int (0 : Int32)), .val (.ref b3), .val .null, .val (.ref b92_168), .val (.int (1 : Int32)), .val (.ref b92_168), .unset] [(.ref b92_168), (.ref b92_168)])) X186 hx rfl rfl rfl (pc0 := 186) (pc' := 189) (same := true) rfl (hb hby at_186) rfl (decide_eq_true (congrArg Value.ref rfl)) (by decide) (by decide) ?_
      show Steps p.tables e below (T186.setTop (mkF m 189 #[.val (.int p0), .val (.int p1), .val (.int p2), .val (.int p3), .val (.int ((p0 &&& (7 : Int32)) + (1 : Int32))), .val (.int ((p1 &&& (2147483647 : Int32)) % ((p0 &&& (7 : Int32)) + (1 : Int32)))), .val (.int ((p2 &&& (2147483647 : Int32)) % ((p0 &&& (7 : Int32)) + (1 : Int32)))), .val (.int (((p3.toUInt32 >>> ((1 : Int32) &&& 31).toUInt32).toInt32) &&& (255 : Int32))), .val (.int (0 : Int32)), .val (.ref b3), .val .null, .val (.ref b92_168), .val (.int (1 : Int32)), .val (.ref b92_168), .unset] [])) _
      refine XS.iconst X186.here hx rfl (hb hby at_189) ?_
      show Steps p.tables e below (T186.setTop (mkF m 190 #[.val (.int p0), .val (.int p1), .val (.int p2), .val (.int p3), .val (.int ((p0 &&& (7 : Int32)) + (1 : Int32))), .val (.int ((p1 &&& (2147483647 : Int32)) % ((p0 &&& (7 : Int32)) + (1 : Int32)))), .val (.int ((p2 &&& (2147483647 : Int32)) % ((p0 &&& (7 : Int32)) + (1 : Int32)))), .val (.int (((p3.toUInt32 >>> ((1 : Int32) &&& 31).toUInt32).toInt32) &&& (255 : Int32))), .val (.int (0 : Int32)), .val (.ref b3), .val .null, .val (.ref b92_168), .val (.int (1 : Int32)), .val (.ref b92_168), .unset] [(.int (1 : Int32))])) _
      refine XS.goto X186.here hx rfl (pc0 := 190) (pc' := 194) rfl (hb hby at_190) (by decide) (by decide) ?_
      show Steps p.tables e below (T186.setTop (mkF m 194 #[.val (.int p0), .val (.int p1), .val (.int p2), .val (.int p3), .val (.int ((p0 &&& (7 : Int32)) + (1 : Int32))), .val (.int ((p1 &&& (2147483647 : Int32)) % ((p0 &&& (7 : Int32)) + (1 : Int32)))), .val (.int ((p2 &&& (2147483647 : Int32)) % ((p0 &&& (7 : Int32)) + (1 : Int32)))), .val (.int (((p3.toUInt32 >>> ((1 : Int32) &&& 31).toUInt32).toInt32) &&& (255 : Int32))), .val (.int (0 : Int32)), .val (.ref b3), .val .null, .val (.ref b92_168), .val (.int (1 : Int32)), .val (.ref b92_168), .unset] [(.int (1 : Int32))])) _
      refine XS.istore X186.here hx rfl (hb hby at_194) rfl (l' := #[.val (.int p0), .val (.int p1), .val (.int p2), .val (.int p3), .val (.int ((p0 &&& (7 : Int32)) + (1 : Int32))), .val (.int ((p1 &&& (2147483647 : Int32)) % ((p0 &&& (7 : Int32)) + (1 : Int32)))), .val (.int ((p2 &&& (2147483647 : Int32)) % ((p0 &&& (7 : Int32)) + (1 : Int32)))), .val (.int (((p3.toUInt32 >>> ((1 : Int32) &&& 31).toUInt32).toInt32) &&& (255 : Int32))), .val (.int (0 : Int32)), .val (.ref b3), .val .null, .val (.ref b92_168), .val (.int (1 : Int32)), .val (.ref b92_168), .unset]) rfl ?_
      show Steps p.tables e below (T186.setTop (mkF m 196 #[.val (.int p0), .val (.int p1), .val (.int p2), .val (.int p3), .val (.int ((p0 &&& (7 : Int32)) + (1 : Int32))), .val (.int ((p1 &&& (2147483647 : Int32)) % ((p0 &&& (7 : Int32)) + (1 : Int32)))), .val (.int ((p2 &&& (2147483647 : Int32)) % ((p0 &&& (7 : Int32)) + (1 : Int32)))), .val (.int (((p3.toUInt32 >>> ((1 : Int32) &&& 31).toUInt32).toInt32) &&& (255 : Int32))), .val (.int (0 : Int32)), .val (.ref b3), .val .null, .val (.ref b92_168), .val (.int (1 : Int32)), .val (.ref b92_168), .unset] [])) _
      refine XS.iload X186.here hx rfl (hb hby at_196) rfl ?_
      show Steps p.tables e below (T186.setTop (mkF m 198 #[.val (.int p0), .val (.int p1), .val (.int p2), .val (.int p3), .val (.int ((p0 &&& (7 : Int32)) + (1 : Int32))), .val (.int ((p1 &&& (2147483647 : Int32)) % ((p0 &&& (7 : Int32)) + (1 : Int32)))), .val (.int ((p2 &&& (2147483647 : Int32)) % ((p0 &&& (7 : Int32)) + (1 : Int32)))), .val (.int (((p3.toUInt32 >>> ((1 : Int32) &&& 31).toUInt32).toInt32) &&& (255 : Int32))), .val (.int (0 : Int32)), .val (.ref b3), .val .null, .val (.ref b92_168), .val (.int (1 : Int32)), .val (.ref b92_168), .unset] [(.int ((p2 &&& (2147483647 : Int32)) % ((p0 &&& (7 : Int32)) + (1 : Int32))))])) _
      refine XS.iload X186.here hx rfl (hb hby at_198) rfl ?_
      show Steps p.tables e below (T186.setTop (mkF m 200 #[.val (.int p0), .val (.int p1), .val (.int p2), .val (.int p3), .val (.int ((p0 &&& (7 : Int32)) + (1 : Int32))), .val (.int ((p1 &&& (2147483647 : Int32)) % ((p0 &&& (7 : Int32)) + (1 : Int32)))), .val (.int ((p2 &&& (2147483647 : Int32)) % ((p0 &&& (7 : Int32)) + (1 : Int32)))), .val (.int (((p3.toUInt32 >>> ((1 : Int32) &&& 31).toUInt32).toInt32) &&& (255 : Int32))), .val (.int (0 : Int32)), .val (.ref b3), .val .null, .val (.ref b92_168), .val (.int (1 : Int32)), .val (.ref b92_168), .unset] [(.int ((p1 &&& (2147483647 : Int32)) % ((p0 &&& (7 : Int32)) + (1 : Int32)))), (.int ((p2 &&& (2147483647 : Int32)) % ((p0 &&& (7 : Int32)) + (1 : Int32))))])) _
      exact kt
    by_cases hc190 : ((p2 &&& (2147483647 : Int32)) % ((p0 &&& (7 : Int32)) + (1 : Int32))) = ((p1 &&& (2147483647 : Int32)) % ((p0 &&& (7 : Int32)) + (1 : Int32)))
    · have c191 := (c183.keep K184c)
      have c192 := ((Fx84_2.keep K168c).keep K184c)
      have c193 := ((Fx84_10.keep K168c).keep K184c)
      have c194 := ((Fx84_14.keep K168c).keep K184c)
      have c195 := ((Fx84_18.keep K168c).keep K184c)
      have c196 := (Fx168_2.keep K184c)
      have c197 := (Fx168_7.keep K184c)
      have c198 := (Fx168_13.keep K184c nin0)
      have c199 := (Fx168_16.keep K184c)
      have c200 := (Fx168_22.keep K184c nin0)
      obtain ⟨T201, h201, k201, X201, e201, E201, A201, st201⟩ := newP X186 hx hZ (hw _ (tk 87 rfl)) e186 (g := (mkF m 234 #[.val (.int p0), .val (.int p1), .val (.int p2), .val (.int p3), .val (.int ((p0 &&& (7 : Int32)) + (1 : Int32))), .val (.int ((p1 &&& (2147483647 : Int32)) % ((p0 &&& (7 : Int32)) + (1 : Int32)))), .val (.int ((p2 &&& (2147483647 : Int32)) % ((p0 &&& (7 : Int32)) + (1 : Int32)))), .val (.int (((p3.toUInt32 >>> ((1 : Int32) &&& 31).toUInt32).toInt32) &&& (255 : Int32))), .val (.int (0 : Int32)), .val (.ref b3), .val .null, .val (.ref b92_168), .val (.int (1 : Int32)), .val (.ref b92_168), .unset] [(.int (1 : Int32)), (.ref b92_168)])) rfl (hb hby at_234) rfl (by decide) (cap := 1) (by decide) (by decide) (by decide) (by decide)
      obtain ⟨b201, g201⟩ : ∃ z, z = T184.heap.size := ⟨_, rfl⟩
      rw [← g201] at A201 st201
      have g_b201 : n0 ≤ b201 := Nat.le_trans (own_old O184) (Nat.le_of_eq g201.symm)
      have ne_b3_b201 : b3 ≠ b201 := Nat.ne_of_lt (Nat.lt_of_lt_of_le c191.lt (Nat.le_of_eq g201.symm))
      have ne_b40_84_b201 : b40_84 ≠ b201 := Nat.ne_of_lt (Nat.lt_of_lt_of_le c192.lt (Nat.le_of_eq g201.symm))
      have ne_b68_84_b201 : b68_84 ≠ b201 := Nat.ne_of_lt (Nat.lt_of_lt_of_le c187.lt (Nat.le_of_eq g201.symm))
      have ne_b47_84_b201 : b47_84 ≠ b201 := Nat.ne_of_lt (Nat.lt_of_lt_of_le c193.lt (Nat.le_of_eq g201.symm))
      have ne_b17_48_84_b201 : b17_48_84 ≠ b201 := Nat.ne_of_lt (Nat.lt_of_lt_of_le c194.lt (Nat.le_of_eq g201.symm))
      have ne_b58_84_b201 : b58_84 ≠ b201 := Nat.ne_of_lt (Nat.lt_of_lt_of_le c195.lt (Nat.le_of_eq g201.symm))
      have ne_b92_168_b201 : b92_168 ≠ b201 := Nat.ne_of_lt (Nat.lt_of_lt_of_le c196.lt (Nat.le_of_eq g201.symm))
      have ne_b125_144_168_b201 : b125_144_168 ≠ b201 := Nat.ne_of_lt (Nat.lt_of_lt_of_le c197.lt (Nat.le_of_eq g201.symm))
      have ne_b101_111_126_144_168_b201 : b101_111_126_144_168 ≠ b201 := Nat.ne_of_lt (Nat.lt_of_lt_of_le c198.lt (Nat.le_of_eq g201.symm))
      have ne_b94_144_168_b201 : b94_144_168 ≠ b201 := Nat.ne_of_lt (Nat.lt_of_lt_of_le c199.lt (Nat.le_of_eq g201.symm))
      have ne_b101_111_117_144_168_b201 : b101_111_117_144_168 ≠ b201 := Nat.ne_of_lt (Nat.lt_of_lt_of_le c200.lt (Nat.le_of_eq g201.symm))
      have O201 : Old Z n0 h201 := O184.ext E201
      have V_b201 : Arv Z h201 b201 k201 .int (1 : Int32) [(.int (0 : Int32))] (.int (0 : Int32)) := (Arv.new A201 (by decide)).pad (pad_rep [] (.int (0 : Int32)) 1)
      obtain ⟨cl202, Ar202, qa202, Sa202, Ma202, Ha202, Ga202⟩ := id V_b201
      have hin202 : ¬ ((0 : Int32) < 0 ∨ cl202.slots.size ≤ ((0 : Int32)).toNatClampNeg) := by exact inb_of Sa202 ⟨by decide, by decide⟩
      obtain ⟨T203, h203, X203, e203, W203, st203⟩ := stI X201 hx hZ e201 Ar202 (j := (0 : Int32)) hin202 (g := (mkF m 240 #[.val (.int p0), .val (.int p1), .val (.int p2), .val (.int p3), .val (.int ((p0 &&& (7 : Int32)) + (1 : Int32))), .val (.int ((p1 &&& (2147483647 : Int32)) % ((p0 &&& (7 : Int32)) + (1 : Int32)))), .val (.int ((p2 &&& (2147483647 : Int32)) % ((p0 &&& (7 : Int32)) + (1 : Int32)))), .val (.int (((p3.toUInt32 >>> ((1 : Int32) &&& 31).toUInt32).toInt32) &&& (255 : Int32))), .val (.int (0 : Int32)), .val (.ref b3), .val .null, .val (.ref b92_168), .val (.int (1 : Int32)), .val (.ref b92_168), .unset] [(.int (((p3.toUInt32 >>> ((1 : Int32) &&& 31).toUInt32).toInt32) &&& (255 : Int32))), (.int (0 : Int32)), (.ref b201), (.ref b201), (.ref b92_168)])) rfl rfl (hb hby at_240)
      have V_b201_203 : Arv Z h203 b201 k201 .int (1 : Int32) [(.int (((p3.toUInt32 >>> ((1 : Int32) &&& 31).toUInt32).toInt32) &&& (255 : Int32)))] (.int (0 : Int32)) := Arv.set Ar202 qa202 Sa202 Ma202 Ha202 Ga202 rfl W203 0 rfl (Nat.le_of_ble_eq_true rfl)
      have O203 : Old Z n0 h203 := O201.wr W203 g_b201
      have N203 := Fr.snoc X203 N184 g_b201
      have c231 := ((c196.ext E201).wr W203)
      have c232 := (((Fx168_4.keep K184c nin0).ext E201).other W203 (Or.inl ne_b92_168_b201))
      have c233 := (((Fx168_3.keep K184c nin0).ext E201).other W203 (Or.inl ne_b92_168_b201))
      have c234 := ((c197.ext E201).wr W203)
      have c235 := (((Fx168_10.keep K184c nin0).ext E201).other W203 (Or.inl ne_b125_144_168_b201))
      have c236 := (((Fx168_8.keep K184c nin0).ext E201).other W203 (Or.inl ne_b125_144_168_b201))
      have c237 := ((c198.ext E201).other W203 ne_b101_111_126_144_168_b201)
      have c238 := ((c199.ext E201).wr W203)
      have c239 := (((Fx168_19.keep K184c nin0).ext E201).other W203 (Or.inl ne_b94_144_168_b201))
      have c240 := (((Fx168_17.keep K184c nin0).ext E201).other W203 (Or.inl ne_b94_144_168_b201))
      have c241 := ((c200.ext E201).other W203 ne_b101_111_117_144_168_b201)
      obtain ⟨cq242, kq242, q242a, q242b, q242c⟩ := isOf hZ e203 c231
      obtain ⟨_, _, ⟨T242, L242, k242, n242⟩, -, X242, ⟨Lc242, hQ242, l242, y242, z242⟩, st242⟩ := X203.virtualBack hx (y := Y11) (z := Y11) hown (mvT hZ (hw _ (tk 88 rfl))) (mvT hZ (hw _ (tk 89 rfl))) (notFace_of_selects (args := #[]) (mvT hZ (hw _ (tk 91 rfl)))) (mvT hZ (hw _ (tk 91 rfl))) (mvT hZ (hw _ (tk 90 rfl))) (by decide) (backOf (W := 0) (rm11x1 l Z a0 hw [] hS0 b92_168 b201 b125_144_168 b101_111_126_144_168 b94_144_168 b101_111_117_144_168 k101_111_126_144_168 k101_111_117_144_168 k201 (((p3.toUInt32 >>> ((1 : Int32) &&& 31).toUInt32).toInt32) &&& (255 : Int32)) h203 n0 O203 g_b92_168 g_b125_144_168 g_b101_111_126_144_168 g_b94_144_168 g_b101_111_117_144_168 g_b201 c231 c232 c233 c234 c235 c236 c237 c238 c239 c240 c241 V_b201_203 Fx168_23 Fx168_24 Fx168_25 Fx168_26 ne_b92_168_b201 Fx168_27 Fx168_28 Fx168_29 ne_b125_144_168_b201 Fx168_30 Fx168_31 ne_b101_111_126_144_168_b201 Fx168_32 ne_b94_144_168_b201 ne_b101_111_117_144_168_b201 (own_notbelow (own_rand ((p3.toUInt32 >>> ((1 : Int32) &&& 31).toUInt32).toInt32) (255 : Int32) 256 (by decide) (by decide)) (by decide)) (own_notbelow (own_rshr (((p3.toUInt32 >>> ((1 : Int32) &&& 31).toUInt32).toInt32) &&& (255 : Int32)) (6 : Int32) 6 4 (own_rand ((p3.toUInt32 >>> ((1 : Int32) &&& 31).toUInt32).toInt32) (255 : Int32) 256 (by decide) (by decide)) (by decide) (by decide)) (by decide))) hZ (hw _ (tk 92 rfl)) (hw _ (tk 49 rfl)) (by decide) (by decide)) q242a q242c (g := (mkF m 241 #[.val (.int p0), .val (.int p1), .val (.int p2), .val (.int p3), .val (.int ((p0 &&& (7 : Int32)) + (1 : Int32))), .val (.int ((p1 &&& (2147483647 : Int32)) % ((p0 &&& (7 : Int32)) + (1 : Int32)))), .val (.int ((p2 &&& (2147483647 : Int32)) % ((p0 &&& (7 : Int32)) + (1 : Int32)))), .val (.int (((p3.toUInt32 >>> ((1 : Int32) &&& 31).toUInt32).toInt32) &&& (255 : Int32))), .val (.int (0 : Int32)), .val (.ref b3), .val .null, .val (.ref b92_168), .val (.int (1 : Int32)), .val (.ref b92_168), .unset] [(.ref b201), (.ref b92_168)])) rfl (by rw [hml]; rfl) (Steps.refl _) (argsL := [(.ref b201)]) (rest := []) (lenOf pd_5 rfl) rfl (by show 2 * 0 + _ ≤ _; exact Nat.le_of_eq rfl) (hb hby at_241) (fun _ _ => ⟨rfl, e203, (by decide : 12 + 0 ≤ _), (by decide : 48 + 0 ≤ _)⟩)
      dsimp only [Pt.U, Pt.locs, Pt.cells, Pt.slots] at X242 l242 y242 z242 st242 hQ242
      subst l242 y242 z242
      obtain ⟨rv242, N242q, e242⟩ := hQ242
      subst rv242
      have N242 := Fr.app N203 N242q
      have c248 := ((c191.ext E201).wr W203)
      have c249 := ((c185.ext E201).other W203 (Or.inl ne_b3_b201))
      have c250 := ((c187.ext E201).other W203 ne_b68_84_b201)
      have c251 := (((Fx168_9.keep K184c nin0).ext E201).other W203 (Or.inl ne_b125_144_168_b201))
      have c252 := (((Fx168_18.keep K184c nin0).ext E201).other W203 (Or.inl ne_b94_144_168_b201))
      obtain ⟨cq253, kq253, q253a, q253b, q253c⟩ := isOf hZ e242 c248
      obtain ⟨_, _, ⟨T253, L253, k253, n253⟩, -, X253, ⟨Lc253, hQ253, l253, y253, z253⟩, st253⟩ := X242.virtualBack hx (y := Y8) (z := Y8) hown (mvT hZ (hw _ (tk 82 rfl))) (mvT hZ (hw _ (tk 83 rfl))) (notFace_of_selects (args := #[]) (mvT hZ (hw _ (tk 85 rfl)))) (mvT hZ (hw _ (tk 85 rfl))) (mvT hZ (hw _ (tk 84 rfl))) (by decide) (backOf (W := 0) (rm10x2 l Z a0 hw [] hS0 b3 ((p2 &&& (2147483647 : Int32)) % ((p0 &&& (7 : Int32)) + (1 : Int32))) b68_84 b92_168 b125_144_168 b101_111_126_144_168 b94_144_168 b101_111_117_144_168 k68_84 ((p0 &&& (7 : Int32)) + (1 : Int32)) ((p1 &&& (2147483647 : Int32)) % ((p0 &&& (7 : Int32)) + (1 : Int32))) k101_111_126_144_168 k101_111_117_144_168 h203 n0 O203 g_b3 g_b68_84 g_b92_168 g_b125_144_168 g_b101_111_126_144_168 g_b94_144_168 g_b101_111_117_144_168 c248 c249 Fx84_7 c250 c231 c232 c233 c234 c251 c235 c236 c237 c238 c252 c239 c240 c241 ne_b3_b68_84 ne_b3_b92_168 ne_b3_b125_144_168 ne_b3_b101_111_126_144_168 ne_b3_b94_144_168 ne_b3_b101_111_117_144_168 ne_b68_84_b92_168 ne_b68_84_b125_144_168 ne_b68_84_b101_111_126_144_168 ne_b68_84_b94_144_168 ne_b68_84_b101_111_117_144_168 Fx168_23 Fx168_24 Fx168_25 Fx168_26 Fx168_27 Fx168_28 Fx168_29 Fx168_30 Fx168_31 Fx168_32 hc190 fk5 fk3) hZ (hw _ (tk 86 rfl)) (hw _ (tk 3 rfl)) (by decide) (by decide)) q253a q253c (g := (mkF m 258 #[.val (.int p0), .val (.int p1), .val (.int p2), .val (.int p3), .val (.int ((p0 &&& (7 : Int32)) + (1 : Int32))), .val (.int ((p1 &&& (2147483647 : Int32)) % ((p0 &&& (7 : Int32)) + (1 : Int32)))), .val (.int ((p2 &&& (2147483647 : Int32)) % ((p0 &&& (7 : Int32)) + (1 : Int32)))), .val (.int (((p3.toUInt32 >>> ((1 : Int32) &&& 31).toUInt32).toInt32) &&& (255 : Int32))), .val (.int (0 : Int32)), .val (.ref b3), .val .null, .val (.ref b92_168), .val (.int (1 : Int32)), .val (.ref b92_168), .unset] [(.int ((p2 &&& (2147483647 : Int32)) % ((p0 &&& (7 : Int32)) + (1 : Int32)))), (.ref b3)])) rfl (by rw [hml]; rfl) (Steps.refl _) (argsL := [(.int ((p2 &&& (2147483647 : Int32)) % ((p0 &&& (7 : Int32)) + (1 : Int32))))]) (rest := []) (lenOf pd_3 rfl) rfl (by show 2 * 0 + _ ≤ _; exact Nat.le_of_eq rfl) (hb hby at_258) (fun _ _ => ⟨rfl, e242, (by decide : 12 + 0 ≤ _), (by decide : 48 + 0 ≤ _)⟩)
      dsimp only [Pt.U, Pt.locs, Pt.cells, Pt.slots] at X253 l253 y253 z253 st253 hQ253
      subst l253 y253 z253
      obtain ⟨rv253, N253q, O253, K253c⟩ := hQ253
      subst rv253
      have N253 := Fr.app N242 N253q
      have c254 := (c249.keep K253c nin0)
      obtain ⟨T255, X255, e255, st255⟩ := getF X253 hx hZ hown (host := "") (Or.inl (hw _ (tk 80 rfl))) Via.refl rfl c254 (g := (mkF m 275 #[.val (.int p0), .val (.int p1), .val (.int p2), .val (.int p3), .val (.int ((p0 &&& (7 : Int32)) + (1 : Int32))), .val (.int ((p1 &&& (2147483647 : Int32)) % ((p0 &&& (7 : Int32)) + (1 : Int32)))), .val (.int ((p2 &&& (2147483647 : Int32)) % ((p0 &&& (7 : Int32)) + (1 : Int32)))), .val (.int (((p3.toUInt32 >>> ((1 : Int32) &&& 31).toUInt32).toInt32) &&& (255 : Int32))), .val (.int (0 : Int32)), .val (.ref b3), .val .null, .val (.ref b92_168), .val (.int (1 : Int32)), .val (.ref b92_168), .val (.ref b92_168)] [(.ref b3)])) rfl rfl (hb hby at_275)
      have c256 := (c250.keep K253c nin0)
      obtain ⟨cl257, Ar257, qa257, Sa257, Ma257, Ha257, Ga257⟩ := id c256
      have hin257 : ¬ (((p2 &&& (2147483647 : Int32)) % ((p0 &&& (7 : Int32)) + (1 : Int32))) < 0 ∨ cl257.slots.size ≤ (((p2 &&& (2147483647 : Int32)) % ((p0 &&& (7 : Int32)) + (1 : Int32)))).toNatClampNeg) := by exact inb_of Sa257 ⟨fk3, fk5⟩
      have hat257 : cl257.slots[(((p2 &&& (2147483647 : Int32)) % ((p0 &&& (7 : Int32)) + (1 : Int32)))).toNatClampNeg]? = some (.ref b92_168) := atH Ha257 hin257 (getH_hit fk3 hc190)
      obtain ⟨T258, X258, e258, st258⟩ := getF X255 hx hZ hown (host := "") (Or.inl (hw _ (tk 80 rfl))) Via.refl e255 c254 (g := (mkF m 327 #[.val (.int p0), .val (.int p1), .val (.int p2), .val (.int p3), .val (.int ((p0 &&& (7 : Int32)) + (1 : Int32))), .val (.int ((p1 &&& (2147483647 : Int32)) % ((p0 &&& (7 : Int32)) + (1 : Int32)))), .val (.int ((p2 &&& (2147483647 : Int32)) % ((p0 &&& (7 : Int32)) + (1 : Int32)))), .val (.int (((p3.toUInt32 >>> ((1 : Int32) &&& 31).toUInt32).toInt32) &&& (255 : Int32))), .val (.int (0 : Int32)), .val (.ref b3), .val .null, .val (.ref b92_168), .val (.int (1 : Int32)), .val (.ref b92_168), .val (.ref b92_168)] [(.ref b3)])) rfl rfl (hb hby at_327)
      obtain ⟨cl259, Ar259, qa259, Sa259, Ma259, Ha259, Ga259⟩ := id c256
      have hin259 : ¬ (((p1 &&& (2147483647 : Int32)) % ((p0 &&& (7 : Int32)) + (1 : Int32))) < 0 ∨ cl259.slots.size ≤ (((p1 &&& (2147483647 : Int32)) % ((p0 &&& (7 : Int32)) + (1 : Int32)))).toNatClampNeg) := by exact inb_of Sa259 ⟨fk2, fk4⟩
      have hat259 : cl259.slots[(((p1 &&& (2147483647 : Int32)) % ((p0 &&& (7 : Int32)) + (1 : Int32)))).toNatClampNeg]? = some (.ref b92_168) := atH Ha259 hin259 (getH_hit fk2 rfl)
      obtain ⟨fs, hr, hrun, hended, hW, hsame⟩ := X258.leave (v := some (.int (1 : Int32))) (fun h => by rw [Bd.returns] at h; cases h)
      refine ⟨_, _, pre189 _ ?_, hrun, hended, _, _, rfl, ?_, ⟨_, rfl⟩, hW, hsame.mono (by decide) (by decide)⟩
      · show Steps p.tables e below (T186.setTop (mkF m 200 #[.val (.int p0), .val (.int p1), .val (.int p2), .val (.int p3), .val (.int ((p0 &&& (7 : Int32)) + (1 : Int32))), .val (.int ((p1 &&& (2147483647 : Int32)) % ((p0 &&& (7 : Int32)) + (1 : Int32)))), .val (.int ((p2 &&& (2147483647 : Int32)) % ((p0 &&& (7 : Int32)) + (1 : Int32)))), .val (.int (((p3.toUInt32 >>> ((1 : Int32) &&& 31).toUInt32).toInt32) &&& (255 : Int32))), .val (.int (0 : Int32)), .val (.ref b3), .val .null, .val (.ref b92_168), .val (.int (1 : Int32)), .val (.ref b92_168), .unset] [(.int ((p1 &&& (2147483647 : Int32)) % ((p0 &&& (7 : Int32)) + (1 : Int32)))), (.int ((p2 &&& (2147483647 : Int32)) % ((p0 &&& (7 : Int32)) + (1 : Int32))))])) _
        refine XS.icmpYes X186.here hx rfl (pc0 := 200) (pc' := 226) rfl (hb hby at_200) rfl (teq hc190).1 (by decide) (by decide) ?_
        show Steps p.tables e below (T186.setTop (mkF m 226 #[.val (.int p0), .val (.int p1), .val (.int p2), .val (.int p3), .val (.int ((p0 &&& (7 : Int32)) + (1 : Int32))), .val (.int ((p1 &&& (2147483647 : Int32)) % ((p0 &&& (7 : Int32)) + (1 : Int32)))), .val (.int ((p2 &&& (2147483647 : Int32)) % ((p0 &&& (7 : Int32)) + (1 : Int32)))), .val (.int (((p3.toUInt32 >>> ((1 : Int32) &&& 31).toUInt32).toInt32) &&& (255 : Int32))), .val (.int (0 : Int32)), .val (.ref b3), .val .null, .val (.ref b92_168), .val (.int (1 : Int32)), .val (.ref b92_168), .unset] [])) _
        refine XS.iload X186.here hx rfl (hb hby at_226) rfl ?_
        show Steps p.tables e below (T186.setTop (mkF m 228 #[.val (.int p0), .val (.int p1), .val (.int p2), .val (.int p3), .val (.int ((p0 &&& (7 : Int32)) + (1 : Int32))), .val (.int ((p1 &&& (2147483647 : Int32)) % ((p0 &&& (7 : Int32)) + (1 : Int32)))), .val (.int ((p2 &&& (2147483647 : Int32)) % ((p0 &&& (7 : Int32)) + (1 : Int32)))), .val (.int (((p3.toUInt32 >>> ((1 : Int32) &&& 31).toUInt32).toInt32) &&& (255 : Int32))), .val (.int (0 : Int32)), .val (.ref b3), .val .null, .val (.ref b92_168), .val (.int (1 : Int32)), .val (.ref b92_168), .unset] [(.int (1 : Int32))])) _
        refine XS.ifNo X186.here hx rfl (hb hby at_228) rfl ((if0 _ _).trans (feq (by decide : ¬ ((1 : Int32) = (0 : Int32)))).1) ?_
        show Steps p.tables e below (T186.setTop (mkF m 231 #[.val (.int p0), .val (.int p1), .val (.int p2), .val (.int p3), .val (.int ((p0 &&& (7 : Int32)) + (1 : Int32))), .val (.int ((p1 &&& (2147483647 : Int32)) % ((p0 &&& (7 : Int32)) + (1 : Int32)))), .val (.int ((p2 &&& (2147483647 : Int32)) % ((p0 &&& (7 : Int32)) + (1 : Int32)))), .val (.int (((p3.toUInt32 >>> ((1 : Int32) &&& 31).toUInt32).toInt32) &&& (255 : Int32))), .val (.int (0 : Int32)), .val (.ref b3), .val .null, .val (.ref b92_168), .val (.int (1 : Int32)), .val (.ref b92_168), .unset] [])) _
        refine XS.aload X186.here hx rfl (hb hby at_231) rfl rfl ?_
        show Steps p.tables e below (T186.setTop (mkF m 233 #[.val (.int p0), .val (.int p1), .val (.int p2), .val (.int p3), .val (.int ((p0 &&& (7 : Int32)) + (1 : Int32))), .val (.int ((p1 &&& (2147483647 : Int32)) % ((p0 &&& (7 : Int32)) + (1 : Int32)))), .val (.int ((p2 &&& (2147483647 : Int32)) % ((p0 &&& (7 : Int32)) + (1 : Int32)))), .val (.int (((p3.toUInt32 >>> ((1 : Int32) &&& 31).toUInt32).toInt32) &&& (255 : Int32))), .val (.int (0 : Int32)), .val (.ref b3), .val .null, .val (.ref b92_168), .val (.int (1 : Int32)), .val (.ref b92_168), .unset] [(.ref b92_168)])) _
        refine XS.iconst X186.here hx rfl (hb hby at_233) ?_
        show Steps p.tables e below (T186.setTop (mkF m 234 #[.val (.int p0), .val (.int p1), .val (.int p2), .val (.int p3), .val (.int ((p0 &&& (7 : Int32)) + (1 : Int32))), .val (.int ((p1 &&& (2147483647 : Int32)) % ((p0 &&& (7 : Int32)) + (1 : Int32)))), .val (.int ((p2 &&& (2147483647 : Int32)) % ((p0 &&& (7 : Int32)) + (1 : Int32)))), .val (.int (((p3.toUInt32 >>> ((1 : Int32) &&& 31).toUInt32).toInt32) &&& (255 : Int32))), .val (.int (0 : Int32)), .val (.ref b3), .val .null, .val (.ref b92_168), .val (.int (1 : Int32)), .val (.ref b92_168), .unset] [(.int (1 : Int32)), (.ref b92_168)])) _
        refine st201 _ ?_
        show Steps p.tables e below (T201.setTop (mkF m 236 #[.val (.int p0), .val (.int p1), .val (.int p2), .val (.int p3), .val (.int ((p0 &&& (7 : Int32)) + (1 : Int32))), .val (.int ((p1 &&& (2147483647 : Int32)) % ((p0 &&& (7 : Int32)) + (1 : Int32)))), .val (.int ((p2 &&& (2147483647 : Int32)) % ((p0 &&& (7 : Int32)) + (1 : Int32)))), .val (.int (((p3.toUInt32 >>> ((1 : Int32) &&& 31).toUInt32).toInt32) &&& (255 : Int32))), .val (.int (0 : Int32)), .val (.ref b3), .val .null, .val (.ref b92_168), .val (.int (1 : Int32)), .val (.ref b92_168), .unset] [(.ref b201), (.ref b92_168)])) _
        refine XS.dup X201.here hx rfl (hb hby at_236) rfl rfl ?_
        show Steps p.tables e below (T201.setTop (mkF m 237 #[.val (.int p0), .val (.int p1), .val (.int p2), .val (.int p3), .val (.int ((p0 &&& (7 : Int32)) + (1 : Int32))), .val (.int ((p1 &&& (2147483647 : Int32)) % ((p0 &&& (7 : Int32)) + (1 : Int32)))), .val (.int ((p2 &&& (2147483647 : Int32)) % ((p0 &&& (7 : Int32)) + (1 : Int32)))), .val (.int (((p3.toUInt32 >>> ((1 : Int32) &&& 31).toUInt32).toInt32) &&& (255 : Int32))), .val (.int (0 : Int32)), .val (.ref b3), .val .null, .val (.ref b92_168), .val (.int (1 : Int32)), .val (.ref b92_168), .unset] [(.ref b201), (.ref b201), (.ref b92_168)])) _
        refine XS.iconst X201.here hx rfl (hb hby at_237) ?_
        show Steps p.tables e below (T201.setTop (mkF m 238 #[.val (.int p0), .val (.int p1), .val (.int p2), .val (.int p3), .val (.int ((p0 &&& (7 : Int32)) + (1 : Int32))), .val (.int ((p1 &&& (2147483647 : Int32)) % ((p0 &&& (7 : Int32)) + (1 : Int32)))), .val (.int ((p2 &&& (2147483647 : Int32)) % ((p0 &&& (7 : Int32)) + (1 : Int32)))), .val (.int (((p3.toUInt32 >>> ((1 : Int32) &&& 31).toUInt32).toInt32) &&& (255 : Int32))), .val (.int (0 : Int32)), .val (.ref b3), .val .null, .val (.ref b92_168), .val (.int (1 : Int32)), .val (.ref b92_168), .unset] [(.int (0 : Int32)), (.ref b201), (.ref b201), (.ref b92_168)])) _
        refine XS.iload X201.here hx rfl (hb hby at_238) rfl ?_
        show Steps p.tables e below (T201.setTop (mkF m 240 #[.val (.int p0), .val (.int p1), .val (.int p2), .val (.int p3), .val (.int ((p0 &&& (7 : Int32)) + (1 : Int32))), .val (.int ((p1 &&& (2147483647 : Int32)) % ((p0 &&& (7 : Int32)) + (1 : Int32)))), .val (.int ((p2 &&& (2147483647 : Int32)) % ((p0 &&& (7 : Int32)) + (1 : Int32)))), .val (.int (((p3.toUInt32 >>> ((1 : Int32) &&& 31).toUInt32).toInt32) &&& (255 : Int32))), .val (.int (0 : Int32)), .val (.ref b3), .val .null, .val (.ref b92_168), .val (.int (1 : Int32)), .val (.ref b92_168), .unset] [(.int (((p3.toUInt32 >>> ((1 : Int32) &&& 31).toUInt32).toInt32) &&& (255 : Int32))), (.int (0 : Int32)), (.ref b201), (.ref b201), (.ref b92_168)])) _
        refine st203 _ ?_
        show Steps p.tables e below (T203.setTop (mkF m 241 #[.val (.int p0), .val (.int p1), .val (.int p2), .val (.int p3), .val (.int ((p0 &&& (7 : Int32)) + (1 : Int32))), .val (.int ((p1 &&& (2147483647 : Int32)) % ((p0 &&& (7 : Int32)) + (1 : Int32)))), .val (.int ((p2 &&& (2147483647 : Int32)) % ((p0 &&& (7 : Int32)) + (1 : Int32)))), .val (.int (((p3.toUInt32 >>> ((1 : Int32) &&& 31).toUInt32).toInt32) &&& (255 : Int32))), .val (.int (0 : Int32)), .val (.ref b3), .val .null, .val (.ref b92_168), .val (.int (1 : Int32)), .val (.ref b92_168), .unset] [(.ref b201), (.ref b92_168)])) _
        refine st242.trans ?_
        show Steps p.tables e below (T242.setTop (mkF m 244 #[.val (.int p0), .val (.int p1), .val (.int p2), .val (.int p3), .val (.int ((p0 &&& (7 : Int32)) + (1 : Int32))), .val (.int ((p1 &&& (2147483647 : Int32)) % ((p0 &&& (7 : Int32)) + (1 : Int32)))), .val (.int ((p2 &&& (2147483647 : Int32)) % ((p0 &&& (7 : Int32)) + (1 : Int32)))), .val (.int (((p3.toUInt32 >>> ((1 : Int32) &&& 31).toUInt32).toInt32) &&& (255 : Int32))), .val (.int (0 : Int32)), .val (.ref b3), .val .null, .val (.ref b92_168), .val (.int (1 : Int32)), .val (.ref b92_168), .unset] [.null])) _
        refine XS.ifnonnullNo X242.here hx rfl (hb hby at_244) rfl ?_
        show Steps p.tables e below (T242.setTop (mkF m 247 #[.val (.int p0), .val (.int p1), .val (.int p2), .val (.int p3), .val (.int ((p0 &&& (7 : Int32)) + (1 : Int32))), .val (.int ((p1 &&& (2147483647 : Int32)) % ((p0 &&& (7 : Int32)) + (1 : Int32)))), .val (.int ((p2 &&& (2147483647 : Int32)) % ((p0 &&& (7 : Int32)) + (1 : Int32)))), .val (.int (((p3.toUInt32 >>> ((1 : Int32) &&& 31).toUInt32).toInt32) &&& (255 : Int32))), .val (.int (0 : Int32)), .val (.ref b3), .val .null, .val (.ref b92_168), .val (.int (1 : Int32)), .val (.ref b92_168), .unset] [])) _
        refine XS.iconst X242.here hx rfl (hb hby at_247) ?_
        show Steps p.tables e below (T242.setTop (mkF m 248 #[.val (.int p0), .val (.int p1), .val (.int p2), .val (.int p3), .val (.int ((p0 &&& (7 : Int32)) + (1 : Int32))), .val (.int ((p1 &&& (2147483647 : Int32)) % ((p0 &&& (7 : Int32)) + (1 : Int32)))), .val (.int ((p2 &&& (2147483647 : Int32)) % ((p0 &&& (7 : Int32)) + (1 : Int32)))), .val (.int (((p3.toUInt32 >>> ((1 : Int32) &&& 31).toUInt32).toInt32) &&& (255 : Int32))), .val (.int (0 : Int32)), .val (.ref b3), .val .null, .val (.ref b92_168), .val (.int (1 : Int32)), .val (.ref b92_168), .unset] [(.int (1 : Int32))])) _
        refine XS.goto X242.here hx rfl (pc0 := 248) (pc' := 252) rfl (hb hby at_248) (by decide) (by decide) ?_
        show Steps p.tables e below (T242.setTop (mkF m 252 #[.val (.int p0), .val (.int p1), .val (.int p2), .val (.int p3), .val (.int ((p0 &&& (7 : Int32)) + (1 : Int32))), .val (.int ((p1 &&& (2147483647 : Int32)) % ((p0 &&& (7 : Int32)) + (1 : Int32)))), .val (.int ((p2 &&& (2147483647 : Int32)) % ((p0 &&& (7 : Int32)) + (1 : Int32)))), .val (.int (((p3.toUInt32 >>> ((1 : Int32) &&& 31).toUInt32).toInt32) &&& (255 : Int32))), .val (.int (0 : Int32)), .val (.ref b3), .val .null, .val (.ref b92_168), .val (.int (1 : Int32)), .val (.ref b92_168), .unset] [(.int (1 : Int32))])) _
        refine XS.istore X242.here hx rfl (hb hby at_252) rfl (l' := #[.val (.int p0), .val (.int p1), .val (.int p2), .val (.int p3), .val (.int ((p0 &&& (7 : Int32)) + (1 : Int32))), .val (.int ((p1 &&& (2147483647 : Int32)) % ((p0 &&& (7 : Int32)) + (1 : Int32)))), .val (.int ((p2 &&& (2147483647 : Int32)) % ((p0 &&& (7 : Int32)) + (1 : Int32)))), .val (.int (((p3.toUInt32 >>> ((1 : Int32) &&& 31).toUInt32).toInt32) &&& (255 : Int32))), .val (.int (0 : Int32)), .val (.ref b3), .val .null, .val (.ref b92_168), .val (.int (1 : Int32)), .val (.ref b92_168), .unset]) rfl ?_
        show Steps p.tables e below (T242.setTop (mkF m 254 #[.val (.int p0), .val (.int p1), .val (.int p2), .val (.int p3), .val (.int ((p0 &&& (7 : Int32)) + (1 : Int32))), .val (.int ((p1 &&& (2147483647 : Int32)) % ((p0 &&& (7 : Int32)) + (1 : Int32)))), .val (.int ((p2 &&& (2147483647 : Int32)) % ((p0 &&& (7 : Int32)) + (1 : Int32)))), .val (.int (((p3.toUInt32 >>> ((1 : Int32) &&& 31).toUInt32).toInt32) &&& (255 : Int32))), .val (.int (0 : Int32)), .val (.ref b3), .val .null, .val (.ref b92_168), .val (.int (1 : Int32)), .val (.ref b92_168), .unset] [])) _
        refine XS.aload X242.here hx rfl (hb hby at_254) rfl rfl ?_
        show Steps p.tables e below (T242.setTop (mkF m 256 #[.val (.int p0), .val (.int p1), .val (.int p2), .val (.int p3), .val (.int ((p0 &&& (7 : Int32)) + (1 : Int32))), .val (.int ((p1 &&& (2147483647 : Int32)) % ((p0 &&& (7 : Int32)) + (1 : Int32)))), .val (.int ((p2 &&& (2147483647 : Int32)) % ((p0 &&& (7 : Int32)) + (1 : Int32)))), .val (.int (((p3.toUInt32 >>> ((1 : Int32) &&& 31).toUInt32).toInt32) &&& (255 : Int32))), .val (.int (0 : Int32)), .val (.ref b3), .val .null, .val (.ref b92_168), .val (.int (1 : Int32)), .val (.ref b92_168), .unset] [(.ref b3)])) _
        refine XS.iload X242.here hx rfl (hb hby at_256) rfl ?_
        show Steps p.tables e below (T242.setTop (mkF m 258 #[.val (.int p0), .val (.int p1), .val (.int p2), .val (.int p3), .val (.int ((p0 &&& (7 : Int32)) + (1 : Int32))), .val (.int ((p1 &&& (2147483647 : Int32)) % ((p0 &&& (7 : Int32)) + (1 : Int32)))), .val (.int ((p2 &&& (2147483647 : Int32)) % ((p0 &&& (7 : Int32)) + (1 : Int32)))), .val (.int (((p3.toUInt32 >>> ((1 : Int32) &&& 31).toUInt32).toInt32) &&& (255 : Int32))), .val (.int (0 : Int32)), .val (.ref b3), .val .null, .val (.ref b92_168), .val (.int (1 : Int32)), .val (.ref b92_168), .unset] [(.int ((p2 &&& (2147483647 : Int32)) % ((p0 &&& (7 : Int32)) + (1 : Int32)))), (.ref b3)])) _
        refine st253.trans ?_
        show Steps p.tables e below (T253.setTop (mkF m 261 #[.val (.int p0), .val (.int p1), .val (.int p2), .val (.int p3), .val (.int ((p0 &&& (7 : Int32)) + (1 : Int32))), .val (.int ((p1 &&& (2147483647 : Int32)) % ((p0 &&& (7 : Int32)) + (1 : Int32)))), .val (.int ((p2 &&& (2147483647 : Int32)) % ((p0 &&& (7 : Int32)) + (1 : Int32)))), .val (.int (((p3.toUInt32 >>> ((1 : Int32) &&& 31).toUInt32).toInt32) &&& (255 : Int32))), .val (.int (0 : Int32)), .val (.ref b3), .val .null, .val (.ref b92_168), .val (.int (1 : Int32)), .val (.ref b92_168), .unset] [(.ref b92_168)])) _
        refine XS.astore X253.here hx rfl (hb hby at_261) rfl rfl (l' := #[.val (.int p0), .val (.int p1), .val (.int p2), .val (.int p3), .val (.int ((p0 &&& (7 : Int32)) + (1 : Int32))), .val (.int ((p1 &&& (2147483647 : Int32)) % ((p0 &&& (7 : Int32)) + (1 : Int32)))), .val (.int ((p2 &&& (2147483647 : Int32)) % ((p0 &&& (7 : Int32)) + (1 : Int32)))), .val (.int (((p3.toUInt32 >>> ((1 : Int32) &&& 31).toUInt32).toInt32) &&& (255 : Int32))), .val (.int (0 : Int32)), .val (.ref b3), .val .null, .val (.ref b92_168), .val (.int (1 : Int32)), .val (.ref b92_168), .val (.ref b92_168)]) rfl ?_
        show Steps p.tables e below (T253.setTop (mkF m 263 #[.val (.int p0), .val (.int p1), .val (.int p2), .val (.int p3), .val (.int ((p0 &&& (7 : Int32)) + (1 : Int32))), .val (.int ((p1 &&& (2147483647 : Int32)) % ((p0 &&& (7 : Int32)) + (1 : Int32)))), .val (.int ((p2 &&& (2147483647 : Int32)) % ((p0 &&& (7 : Int32)) + (1 : Int32)))), .val (.int (((p3.toUInt32 >>> ((1 : Int32) &&& 31).toUInt32).toInt32) &&& (255 : Int32))), .val (.int (0 : Int32)), .val (.ref b3), .val .null, .val (.ref b92_168), .val (.int (1 : Int32)), .val (.ref b92_168), .val (.ref b92_168)] [])) _
        refine XS.iload X253.here hx rfl (hb hby at_263) rfl ?_
        show Steps p.tables e below (T253.setTop (mkF m 265 #[.val (.int p0), .val (.int p1), .val (.int p2), .val (.int p3), .val (.int ((p0 &&& (7 : Int32)) + (1 : Int32))), .val (.int ((p1 &&& (2147483647 : Int32)) % ((p0 &&& (7 : Int32)) + (1 : Int32)))), .val (.int ((p2 &&& (2147483647 : Int32)) % ((p0 &&& (7 : Int32)) + (1 : Int32)))), .val (.int (((p3.toUInt32 >>> ((1 : Int32) &&& 31).toUInt32).toInt32) &&& (255 : Int32))), .val (.int (0 : Int32)), .val (.ref b3), .val .null, .val (.ref b92_168), .val (.int (1 : Int32)), .val (.ref b92_168), .val (.ref b92_168)] [(.int (1 : Int32))])) _
        refine XS.ifNo X253.here hx rfl (hb hby at_265) rfl ((if0 _ _).trans (feq (by decide : ¬ ((1 : Int32) = (0 : Int32)))).1) ?_
        show Steps p.tables e below (T253.setTop (mkF m 268 #[.val (.int p0), .val (.int p1), .val (.int p2), .val (.int p3), .val (.int ((p0 &&& (7 : Int32)) + (1 : Int32))), .val (.int ((p1 &&& (2147483647 : Int32)) % ((p0 &&& (7 : Int32)) + (1 : Int32)))), .val (.int ((p2 &&& (2147483647 : Int32)) % ((p0 &&& (7 : Int32)) + (1 : Int32)))), .val (.int (((p3.toUInt32 >>> ((1 : Int32) &&& 31).toUInt32).toInt32) &&& (255 : Int32))), .val (.int (0 : Int32)), .val (.ref b3), .val .null, .val (.ref b92_168), .val (.int (1 : Int32)), .val (.ref b92_168), .val (.ref b92_168)] [])) _
        refine XS.aload X253.here hx rfl (hb hby at_268) rfl rfl ?_
        show Steps p.tables e below (T253.setTop (mkF m 270 #[.val (.int p0), .val (.int p1), .val (.int p2), .val (.int p3), .val (.int ((p0 &&& (7 : Int32)) + (1 : Int32))), .val (.int ((p1 &&& (2147483647 : Int32)) % ((p0 &&& (7 : Int32)) + (1 : Int32)))), .val (.int ((p2 &&& (2147483647 : Int32)) % ((p0 &&& (7 : Int32)) + (1 : Int32)))), .val (.int (((p3.toUInt32 >>> ((1 : Int32) &&& 31).toUInt32).toInt32) &&& (255 : Int32))), .val (.int (0 : Int32)), .val (.ref b3), .val .null, .val (.ref b92_168), .val (.int (1 : Int32)), .val (.ref b92_168), .val (.ref b92_168)] [(.ref b92_168)])) _
        refine XS.ifnullNo X253.here hx rfl (hb hby at_270) rfl ?_
        show Steps p.tables e below (T253.setTop (mkF m 273 #[.val (.int p0), .val (.int p1), .val (.int p2), .val (.int p3), .val (.int ((p0 &&& (7 : Int32)) + (1 : Int32))), .val (.int ((p1 &&& (2147483647 : Int32)) % ((p0 &&& (7 : Int32)) + (1 : Int32)))), .val (.int ((p2 &&& (2147483647 : Int32)) % ((p0 &&& (7 : Int32)) + (1 : Int32)))), .val (.int (((p3.toUInt32 >>> ((1 : Int32) &&& 31).toUInt32).toInt32) &&& (255 : Int32))), .val (.int (0 : Int32)), .val (.ref b3), .val .null, .val (.ref b92_168), .val (.int (1 : Int32)), .val (.ref b92_168), .val (.ref b92_168)] [])) _
        refine XS.aload X253.here hx rfl (hb hby at_273) rfl rfl ?_
        show Steps p.tables e below (T253.setTop (mkF m 275 #[.val (.int p0), .val (.int p1), .val (.int p2), .val (.int p3), .val (.int ((p0 &&& (7 : Int32)) + (1 : Int32))), .val (.int ((p1 &&& (2147483647 : Int32)) % ((p0 &&& (7 : Int32)) + (1 : Int32)))), .val (.int ((p2 &&& (2147483647 : Int32)) % ((p0 &&& (7 : Int32)) + (1 : Int32)))), .val (.int (((p3.toUInt32 >>> ((1 : Int32) &&& 31).toUInt32).toInt32) &&& (255 : Int32))), .val (.int (0 : Int32)), .val (.ref b3), .val .null, .val (.ref b92_168), .val (.int (1 : Int32)), .val (.ref b92_168), .val (.ref b92_168)] [(.ref b3)])) _
        refine st255 _ ?_
        show Steps p.tables e below (T255.setTop (mkF m 278 #[.val (.int p0), .val (.int p1), .val (.int p2), .val (.int p3), .val (.int ((p0 &&& (7 : Int32)) + (1 : Int32))), .val (.int ((p1 &&& (2147483647 : Int32)) % ((p0 &&& (7 : Int32)) + (1 : Int32)))), .val (.int ((p2 &&& (2147483647 : Int32)) % ((p0 &&& (7 : Int32)) + (1 : Int32)))), .val (.int (((p3.toUInt32 >>> ((1 : Int32) &&& 31).toUInt32).toInt32) &&& (255 : Int32))), .val (.int (0 : Int32)), .val (.ref b3), .val .null, .val (.ref b92_168), .val (.int (1 : Int32)), .val (.ref b92_168), .val (.ref b92_168)] [(.ref b68_84)])) _
        refine XS.iload X255.here hx rfl (hb hby at_278) rfl ?_
        show Steps p.tables e below (T255.setTop (mkF m 280 #[.val (.int p0), .val (.int p1), .val (.int p2), .val (.int p3), .val (.int ((p0 &&& (7 : Int32)) + (1 : Int32))), .val (.int ((p1 &&& (2147483647 : Int32)) % ((p0 &&& (7 : Int32)) + (1 : Int32)))), .val (.int ((p2 &&& (2147483647 : Int32)) % ((p0 &&& (7 : Int32)) + (1 : Int32)))), .val (.int (((p3.toUInt32 >>> ((1 : Int32) &&& 31).toUInt32).toInt32) &&& (255 : Int32))), .val (.int (0 : Int32)), .val (.ref b3), .val .null, .val (.ref b92_168), .val (.int (1 : Int32)), .val (.ref b92_168), .val (.ref b92_168)] [(.int ((p2 &&& (2147483647 : Int32)) % ((p0 &&& (7 : Int32)) + (1 : Int32)))), (.ref b68_84)])) _
        refine X255.aaload hx (j := ((p2 &&& (2147483647 : Int32)) % ((p0 &&& (7 : Int32)) + (1 : Int32)))) (v := (.ref b92_168)) (by rw [e255]; exact Ar257.1) (State.isArrayOf_alike hZ.alike Ar257.2.1) rfl Ar257.2.2 hin257 hat257 (g := (mkF m 280 #[.val (.int p0), .val (.int p1), .val (.int p2), .val (.int p3), .val (.int ((p0 &&& (7 : Int32)) + (1 : Int32))), .val (.int ((p1 &&& (2147483647 : Int32)) % ((p0 &&& (7 : Int32)) + (1 : Int32)))), .val (.int ((p2 &&& (2147483647 : Int32)) % ((p0 &&& (7 : Int32)) + (1 : Int32)))), .val (.int (((p3.toUInt32 >>> ((1 : Int32) &&& 31).toUInt32).toInt32) &&& (255 : Int32))), .val (.int (0 : Int32)), .val (.ref b3), .val .null, .val (.ref b92_168), .val (.int (1 : Int32)), .val (.ref b92_168), .val (.ref b92_168)] [(.int ((p2 &&& (2147483647 : Int32)) % ((p0 &&& (7 : Int32)) + (1 : Int32)))), (.ref b68_84)])) rfl rfl (hb hby at_280) _ ?_
        show Steps p.tables e below (T255.setTop (mkF m 281 #[.val (.int p0), .val (.int p1), .val (.int p2), .val (.int p3), .val (.int ((p0 &&& (7 : Int32)) + (1 : Int32))), .val (.int ((p1 &&& (2147483647 : Int32)) % ((p0 &&& (7 : Int32)) + (1 : Int32)))), .val (.int ((p2 &&& (2147483647 : Int32)) % ((p0 &&& (7 : Int32)) + (1 : Int32)))), .val (.int (((p3.toUInt32 >>> ((1 : Int32) &&& 31).toUInt32).toInt32) &&& (255 : Int32))), .val (.int (0 : Int32)), .val (.ref b3), .val .null, .val (.ref b92_168), .val (.int (1 : Int32)), .val (.ref b92_168), .val (.ref b92_168)] [(.ref b92_168)])) _
        refine XS.aload X255.here hx rfl (hb hby at_281) rfl rfl ?_
        show Steps p.tables e below (T255.setTop (mkF m 283 #[.val (.int p0), .val (.int p1), .val (.int p2), .val (.int p3), .val (.int ((p0 &&& (7 : Int32)) + (1 : Int32))), .val (.int ((p1 &&& (2147483647 : Int32)) % ((p0 &&& (7 : Int32)) + (1 : Int32)))), .val (.int ((p2 &&& (2147483647 : Int32)) % ((p0 &&& (7 : Int32)) + (1 : Int32)))), .val (.int (((p3.toUInt32 >>> ((1 : Int32) &&& 31).toUInt32).toInt32) &&& (255 : Int32))), .val (.int (0 : Int32)), .val (.ref b3), .val .null, .val (.ref b92_168), .val (.int (1 : Int32)), .val (.ref b92_168), .val (.ref b92_168)] [(.ref b92_168), (.ref b92_168)])) _
        refine Jvm.RoadKit.acmp (g := (mkF m 283 #[.val (.int p0), .val (.int p1), .val (.int p2), .val (.int p3), .val (.int ((p0 &&& (7 : Int32)) + (1 : Int32))), .val (.int ((p1 &&& (2147483647 : Int32)) % ((p0 &&& (7 : Int32)) + (1 : Int32)))), .val (.int ((p2 &&& (2147483647 : Int32)) % ((p0 &&& (7 : Int32)) + (1 : Int32)))), .val (.int (((p3.toUInt32 >>> ((1 : Int32) &&& 31).toUInt32).toInt32) &&& (255 : Int32))), .val (.int (0 : Int32)), .val (.ref b3), .val .null, .val (.ref b92_168), .val (.int (1 : Int32)), .val (.ref b92_168), .val (.ref b92_168)] [(.ref b92_168), (.ref b92_168)])) X255 hx rfl rfl rfl (pc0 := 283) (pc' := 286) (same := true) rfl (hb hby at_283) rfl (decide_eq_true (congrArg Value.ref rfl)) (by decide) (by decide) ?_
        show Steps p.tables e below (T255.setTop (mkF m 286 #[.val (.int p0), .val (.int p1), .val (.int p2), .val (.int p3), .val (.int ((p0 &&& (7 : Int32)) + (1 : Int32))), .val (.int ((p1 &&& (2147483647 : Int32)) % ((p0 &&& (7 : Int32)) + (1 : Int32)))), .val (.int ((p2 &&& (2147483647 : Int32)) % ((p0 &&& (7 : Int32)) + (1 : Int32)))), .val (.int (((p3.toUInt32 >>> ((1 : Int32) &&& 31).toUInt32).toInt32) &&& (255 : Int32))), .val (.int (0 : Int32)), .val (.ref b3), .val .null, .val (.ref b92_168), .val (.int (1 : Int32)), .val (.ref b92_168), .val (.ref b92_168)] [])) _
        refine XS.iload X255.here hx rfl (hb hby at_286) rfl ?_
        show Steps p.tables e below (T255.setTop (mkF m 288 #[.val (.int p0), .val (.int p1), .val (.int p2), .val (.int p3), .val (.int ((p0 &&& (7 : Int32)) + (1 : Int32))), .val (.int ((p1 &&& (2147483647 : Int32)) % ((p0 &&& (7 : Int32)) + (1 : Int32)))), .val (.int ((p2 &&& (2147483647 : Int32)) % ((p0 &&& (7 : Int32)) + (1 : Int32)))), .val (.int (((p3.toUInt32 >>> ((1 : Int32) &&& 31).toUInt32).toInt32) &&& (255 : Int32))), .val (.int (0 : Int32)), .val (.ref b3), .val .null, .val (.ref b92_168), .val (.int (1 : Int32)), .val (.ref b92_168), .val (.ref b92_168)] [(.int ((p2 &&& (2147483647 : Int32)) % ((p0 &&& (7 : Int32)) + (1 : Int32))))])) _
        refine XS.iload X255.here hx rfl (hb hby at_288) rfl ?_
        show Steps p.tables e below (T255.setTop (mkF m 290 #[.val (.int p0), .val (.int p1), .val (.int p2), .val (.int p3), .val (.int ((p0 &&& (7 : Int32)) + (1 : Int32))), .val (.int ((p1 &&& (2147483647 : Int32)) % ((p0 &&& (7 : Int32)) + (1 : Int32)))), .val (.int ((p2 &&& (2147483647 : Int32)) % ((p0 &&& (7 : Int32)) + (1 : Int32)))), .val (.int (((p3.toUInt32 >>> ((1 : Int32) &&& 31).toUInt32).toInt32) &&& (255 : Int32))), .val (.int (0 : Int32)), .val (.ref b3), .val .null, .val (.ref b92_168), .val (.int (1 : Int32)), .val (.ref b92_168), .val (.ref b92_168)] [(.int ((p1 &&& (2147483647 : Int32)) % ((p0 &&& (7 : Int32)) + (1 : Int32)))), (.int ((p2 &&& (2147483647 : Int32)) % ((p0 &&& (7 : Int32)) + (1 : Int32))))])) _
        refine XS.icmpNo X255.here hx rfl (hb hby at_290) rfl (teq hc190).2 ?_
        show Steps p.tables e below (T255.setTop (mkF m 293 #[.val (.int p0), .val (.int p1), .val (.int p2), .val (.int p3), .val (.int ((p0 &&& (7 : Int32)) + (1 : Int32))), .val (.int ((p1 &&& (2147483647 : Int32)) % ((p0 &&& (7 : Int32)) + (1 : Int32)))), .val (.int ((p2 &&& (2147483647 : Int32)) % ((p0 &&& (7 : Int32)) + (1 : Int32)))), .val (.int (((p3.toUInt32 >>> ((1 : Int32) &&& 31).toUInt32).toInt32) &&& (255 : Int32))), .val (.int (0 : Int32)), .val (.ref b3), .val .null, .val (.ref b92_168), .val (.int (1 : Int32)), .val (.ref b92_168), .val (.ref b92_168)] [])) _
        refine XS.iconst X255.here hx rfl (hb hby at_293) ?_
        show Steps p.tables e below (T255.setTop (mkF m 294 #[.val (.int p0), .val (.int p1), .val (.int p2), .val (.int p3), .val (.int ((p0 &&& (7 : Int32)) + (1 : Int32))), .val (.int ((p1 &&& (2147483647 : Int32)) % ((p0 &&& (7 : Int32)) + (1 : Int32)))), .val (.int ((p2 &&& (2147483647 : Int32)) % ((p0 &&& (7 : Int32)) + (1 : Int32)))), .val (.int (((p3.toUInt32 >>> ((1 : Int32) &&& 31).toUInt32).toInt32) &&& (255 : Int32))), .val (.int (0 : Int32)), .val (.ref b3), .val .null, .val (.ref b92_168), .val (.int (1 : Int32)), .val (.ref b92_168), .val (.ref b92_168)] [(.int (1 : Int32))])) _
        refine XS.goto X255.here hx rfl (pc0 := 294) (pc' := 298) rfl (hb hby at_294) (by decide) (by decide) ?_
        show Steps p.tables e below (T255.setTop (mkF m 298 #[.val (.int p0), .val (.int p1), .val (.int p2), .val (.int p3), .val (.int ((p0 &&& (7 : Int32)) + (1 : Int32))), .val (.int ((p1 &&& (2147483647 : Int32)) % ((p0 &&& (7 : Int32)) + (1 : Int32)))), .val (.int ((p2 &&& (2147483647 : Int32)) % ((p0 &&& (7 : Int32)) + (1 : Int32)))), .val (.int (((p3.toUInt32 >>> ((1 : Int32) &&& 31).toUInt32).toInt32) &&& (255 : Int32))), .val (.int (0 : Int32)), .val (.ref b3), .val .null, .val (.ref b92_168), .val (.int (1 : Int32)), .val (.ref b92_168), .val (.ref b92_168)] [(.int (1 : Int32))])) _
        refine XS.aload X255.here hx rfl (hb hby at_298) rfl rfl ?_
        show Steps p.tables e below (T255.setTop (mkF m 300 #[.val (.int p0), .val (.int p1), .val (.int p2), .val (.int p3), .val (.int ((p0 &&& (7 : Int32)) + (1 : Int32))), .val (.int ((p1 &&& (2147483647 : Int32)) % ((p0 &&& (7 : Int32)) + (1 : Int32)))), .val (.int ((p2 &&& (2147483647 : Int32)) % ((p0 &&& (7 : Int32)) + (1 : Int32)))), .val (.int (((p3.toUInt32 >>> ((1 : Int32) &&& 31).toUInt32).toInt32) &&& (255 : Int32))), .val (.int (0 : Int32)), .val (.ref b3), .val .null, .val (.ref b92_168), .val (.int (1 : Int32)), .val (.ref b92_168), .val (.ref b92_168)] [(.ref b92_168), (.int (1 : Int32))])) _
        refine XS.aload X255.here hx rfl (hb hby at_300) rfl rfl ?_
        show Steps p.tables e below (T255.setTop (mkF m 302 #[.val (.int p0), .val (.int p1), .val (.int p2), .val (.int p3), .val (.int ((p0 &&& (7 : Int32)) + (1 : Int32))), .val (.int ((p1 &&& (2147483647 : Int32)) % ((p0 &&& (7 : Int32)) + (1 : Int32)))), .val (.int ((p2 &&& (2147483647 : Int32)) % ((p0 &&& (7 : Int32)) + (1 : Int32)))), .val (.int (((p3.toUInt32 >>> ((1 : Int32) &&& 31).toUInt32).toInt32) &&& (255 : Int32))), .val (.int (0 : Int32)), .val (.ref b3), .val .null, .val (.ref b92_168), .val (.int (1 : Int32)), .val (.ref b92_168), .val (.ref b92_168)] [(.ref b92_168), (.ref b92_168), (.int (1 : Int32))])) _
        refine Jvm.RoadKit.acmp (g := (mkF m 302 #[.val (.int p0), .val (.int p1), .val (.int p2), .val (.int p3), .val (.int ((p0 &&& (7 : Int32)) + (1 : Int32))), .val (.int ((p1 &&& (2147483647 : Int32)) % ((p0 &&& (7 : Int32)) + (1 : Int32)))), .val (.int ((p2 &&& (2147483647 : Int32)) % ((p0 &&& (7 : Int32)) + (1 : Int32)))), .val (.int (((p3.toUInt32 >>> ((1 : Int32) &&& 31).toUInt32).toInt32) &&& (255 : Int32))), .val (.int (0 : Int32)), .val (.ref b3), .val .null, .val (.ref b92_168), .val (.int (1 : Int32)), .val (.ref b92_168), .val (.ref b92_168)] [(.ref b92_168), (.ref b92_168), (.int (1 : Int32))])) X255 hx rfl rfl rfl (pc0 := 302) (pc' := 305) (same := true) rfl (hb hby at_302) rfl (decide_eq_true (congrArg Value.ref rfl)) (by decide) (by decide) ?_
        show Steps p.tables e below (T255.setTop (mkF m 305 #[.val (.int p0), .val (.int p1), .val (.int p2), .val (.int p3), .val (.int ((p0 &&& (7 : Int32)) + (1 : Int32))), .val (.int ((p1 &&& (2147483647 : Int32)) % ((p0 &&& (7 : Int32)) + (1 : Int32)))), .val (.int ((p2 &&& (2147483647 : Int32)) % ((p0 &&& (7 : Int32)) + (1 : Int32)))), .val (.int (((p3.toUInt32 >>> ((1 : Int32) &&& 31).toUInt32).toInt32) &&& (255 : Int32))), .val (.int (0 : Int32)), .val (.ref b3), .val .null, .val (.ref b92_168), .val (.int (1 : Int32)), .val (.ref b92_168), .val (.ref b92_168)] [(.int (1 : Int32))])) _
        refine XS.iconst X255.here hx rfl (hb hby at_305) ?_
        show Steps p.tables e below (T255.setTop (mkF m 306 #[.val (.int p0), .val (.int p1), .val (.int p2), .val (.int p3), .val (.int ((p0 &&& (7 : Int32)) + (1 : Int32))), .val (.int ((p1 &&& (2147483647 : Int32)) % ((p0 &&& (7 : Int32)) + (1 : Int32)))), .val (.int ((p2 &&& (2147483647 : Int32)) % ((p0 &&& (7 : Int32)) + (1 : Int32)))), .val (.int (((p3.toUInt32 >>> ((1 : Int32) &&& 31).toUInt32).toInt32) &&& (255 : Int32))), .val (.int (0 : Int32)), .val (.ref b3), .val .null, .val (.ref b92_168), .val (.int (1 : Int32)), .val (.ref b92_168), .val (.ref b92_168)] [(.int (1 : Int32)), (.int (1 : Int32))])) _
        refine XS.goto X255.here hx rfl (pc0 := 306) (pc' := 310) rfl (hb hby at_306) (by decide) (by decide) ?_
        show Steps p.tables e below (T255.setTop (mkF m 310 #[.val (.int p0), .val (.int p1), .val (.int p2), .val (.int p3), .val (.int ((p0 &&& (7 : Int32)) + (1 : Int32))), .val (.int ((p1 &&& (2147483647 : Int32)) % ((p0 &&& (7 : Int32)) + (1 : Int32)))), .val (.int ((p2 &&& (2147483647 : Int32)) % ((p0 &&& (7 : Int32)) + (1 : Int32)))), .val (.int (((p3.toUInt32 >>> ((1 : Int32) &&& 31).toUInt32).toInt32) &&& (255 : Int32))), .val (.int (0 : Int32)), .val (.ref b3), .val .null, .val (.ref b92_168), .val (.int (1 : Int32)), .val (.ref b92_168), .val (.ref b92_168)] [(.int (1 : Int32)), (.int (1 : Int32))])) _
        refine XS.icmpNo X255.here hx rfl (hb hby at_310) rfl (teq (by decide : ((1 : Int32) = (1 : Int32)))).2 ?_
        show Steps p.tables e below (T255.setTop (mkF m 313 #[.val (.int p0), .val (.int p1), .val (.int p2), .val (.int p3), .val (.int ((p0 &&& (7 : Int32)) + (1 : Int32))), .val (.int ((p1 &&& (2147483647 : Int32)) % ((p0 &&& (7 : Int32)) + (1 : Int32)))), .val (.int ((p2 &&& (2147483647 : Int32)) % ((p0 &&& (7 : Int32)) + (1 : Int32)))), .val (.int (((p3.toUInt32 >>> ((1 : Int32) &&& 31).toUInt32).toInt32) &&& (255 : Int32))), .val (.int (0 : Int32)), .val (.ref b3), .val .null, .val (.ref b92_168), .val (.int (1 : Int32)), .val (.ref b92_168), .val (.ref b92_168)] [])) _
        refine XS.iconst X255.here hx rfl (hb hby at_313) ?_
        show Steps p.tables e below (T255.setTop (mkF m 314 #[.val (.int p0), .val (.int p1), .val (.int p2), .val (.int p3), .val (.int ((p0 &&& (7 : Int32)) + (1 : Int32))), .val (.int ((p1 &&& (2147483647 : Int32)) % ((p0 &&& (7 : Int32)) + (1 : Int32)))), .val (.int ((p2 &&& (2147483647 : Int32)) % ((p0 &&& (7 : Int32)) + (1 : Int32)))), .val (.int (((p3.toUInt32 >>> ((1 : Int32) &&& 31).toUInt32).toInt32) &&& (255 : Int32))), .val (.int (0 : Int32)), .val (.ref b3), .val .null, .val (.ref b92_168), .val (.int (1 : Int32)), .val (.ref b92_168), .val (.ref b92_168)] [(.int (1 : Int32))])) _
        refine XS.goto X255.here hx rfl (pc0 := 314) (pc' := 318) rfl (hb hby at_314) (by decide) (by decide) ?_
        show Steps p.tables e below (T255.setTop (mkF m 318 #[.val (.int p0), .val (.int p1), .val (.int p2), .val (.int p3), .val (.int ((p0 &&& (7 : Int32)) + (1 : Int32))), .val (.int ((p1 &&& (2147483647 : Int32)) % ((p0 &&& (7 : Int32)) + (1 : Int32)))), .val (.int ((p2 &&& (2147483647 : Int32)) % ((p0 &&& (7 : Int32)) + (1 : Int32)))), .val (.int (((p3.toUInt32 >>> ((1 : Int32) &&& 31).toUInt32).toInt32) &&& (255 : Int32))), .val (.int (0 : Int32)), .val (.ref b3), .val .null, .val (.ref b92_168), .val (.int (1 : Int32)), .val (.ref b92_168), .val (.ref b92_168)] [(.int (1 : Int32))])) _
        refine XS.istore X255.here hx rfl (hb hby at_318) rfl (l' := #[.val (.int p0), .val (.int p1), .val (.int p2), .val (.int p3), .val (.int ((p0 &&& (7 : Int32)) + (1 : Int32))), .val (.int ((p1 &&& (2147483647 : Int32)) % ((p0 &&& (7 : Int32)) + (1 : Int32)))), .val (.int ((p2 &&& (2147483647 : Int32)) % ((p0 &&& (7 : Int32)) + (1 : Int32)))), .val (.int (((p3.toUInt32 >>> ((1 : Int32) &&& 31).toUInt32).toInt32) &&& (255 : Int32))), .val (.int (0 : Int32)), .val (.ref b3), .val .null, .val (.ref b92_168), .val (.int (1 : Int32)), .val (.ref b92_168), .val (.ref b92_168)]) rfl ?_
        show Steps p.tables e below (T255.setTop (mkF m 320 #[.val (.int p0), .val (.int p1), .val (.int p2), .val (.int p3), .val (.int ((p0 &&& (7 : Int32)) + (1 : Int32))), .val (.int ((p1 &&& (2147483647 : Int32)) % ((p0 &&& (7 : Int32)) + (1 : Int32)))), .val (.int ((p2 &&& (2147483647 : Int32)) % ((p0 &&& (7 : Int32)) + (1 : Int32)))), .val (.int (((p3.toUInt32 >>> ((1 : Int32) &&& 31).toUInt32).toInt32) &&& (255 : Int32))), .val (.int (0 : Int32)), .val (.ref b3), .val .null, .val (.ref b92_168), .val (.int (1 : Int32)), .val (.ref b92_168), .val (.ref b92_168)] [])) _
        refine XS.iload X255.here hx rfl (hb hby at_320) rfl ?_
        show Steps p.tables e below (T255.setTop (mkF m 322 #[.val (.int p0), .val (.int p1), .val (.int p2), .val (.int p3), .val (.int ((p0 &&& (7 : Int32)) + (1 : Int32))), .val (.int ((p1 &&& (2147483647 : Int32)) % ((p0 &&& (7 : Int32)) + (1 : Int32)))), .val (.int ((p2 &&& (2147483647 : Int32)) % ((p0 &&& (7 : Int32)) + (1 : Int32)))), .val (.int (((p3.toUInt32 >>> ((1 : Int32) &&& 31).toUInt32).toInt32) &&& (255 : Int32))), .val (.int (0 : Int32)), .val (.ref b3), .val .null, .val (.ref b92_168), .val (.int (1 : Int32)), .val (.ref b92_168), .val (.ref b92_168)] [(.int (1 : Int32))])) _
        refine XS.ifNo X255.here hx rfl (hb hby at_322) rfl ((if0 _ _).trans (feq (by decide : ¬ ((1 : Int32) = (0 : Int32)))).1) ?_
        show Steps p.tables e below (T255.setTop (mkF m 325 #[.val (.int p0), .val (.int p1), .val (.int p2), .val (.int p3), .val (.int ((p0 &&& (7 : Int32)) + (1 : Int32))), .val (.int ((p1 &&& (2147483647 : Int32)) % ((p0 &&& (7 : Int32)) + (1 : Int32)))), .val (.int ((p2 &&& (2147483647 : Int32)) % ((p0 &&& (7 : Int32)) + (1 : Int32)))), .val (.int (((p3.toUInt32 >>> ((1 : Int32) &&& 31).toUInt32).toInt32) &&& (255 : Int32))), .val (.int (0 : Int32)), .val (.ref b3), .val .null, .val (.ref b92_168), .val (.int (1 : Int32)), .val (.ref b92_168), .val (.ref b92_168)] [])) _
        refine XS.aload X255.here hx rfl (hb hby at_325) rfl rfl ?_
        show Steps p.tables e below (T255.setTop (mkF m 327 #[.val (.int p0), .val (.int p1), .val (.int p2), .val (.int p3), .val (.int ((p0 &&& (7 : Int32)) + (1 : Int32))), .val (.int ((p1 &&& (2147483647 : Int32)) % ((p0 &&& (7 : Int32)) + (1 : Int32)))), .val (.int ((p2 &&& (2147483647 : Int32)) % ((p0 &&& (7 : Int32)) + (1 : Int32)))), .val (.int (((p3.toUInt32 >>> ((1 : Int32) &&& 31).toUInt32).toInt32) &&& (255 : Int32))), .val (.int (0 : Int32)), .val (.ref b3), .val .null, .val (.ref b92_168), .val (.int (1 : Int32)), .val (.ref b92_168), .val (.ref b92_168)] [(.ref b3)])) _
        refine st258 _ ?_
        show Steps p.tables e below (T258.setTop (mkF m 330 #[.val (.int p0), .val (.int p1), .val (.int p2), .val (.int p3), .val (.int ((p0 &&& (7 : Int32)) + (1 : Int32))), .val (.int ((p1 &&& (2147483647 : Int32)) % ((p0 &&& (7 : Int32)) + (1 : Int32)))), .val (.int ((p2 &&& (2147483647 : Int32)) % ((p0 &&& (7 : Int32)) + (1 : Int32)))), .val (.int (((p3.toUInt32 >>> ((1 : Int32) &&& 31).toUInt32).toInt32) &&& (255 : Int32))), .val (.int (0 : Int32)), .val (.ref b3), .val .null, .val (.ref b92_168), .val (.int (1 : Int32)), .val (.ref b92_168), .val (.ref b92_168)] [(.ref b68_84)])) _
        refine XS.iload X258.here hx rfl (hb hby at_330) rfl ?_
        show Steps p.tables e below (T258.setTop (mkF m 332 #[.val (.int p0), .val (.int p1), .val (.int p2), .val (.int p3), .val (.int ((p0 &&& (7 : Int32)) + (1 : Int32))), .val (.int ((p1 &&& (2147483647 : Int32)) % ((p0 &&& (7 : Int32)) + (1 : Int32)))), .val (.int ((p2 &&& (2147483647 : Int32)) % ((p0 &&& (7 : Int32)) + (1 : Int32)))), .val (.int (((p3.toUInt32 >>> ((1 : Int32) &&& 31).toUInt32).toInt32) &&& (255 : Int32))), .val (.int (0 : Int32)), .val (.ref b3), .val .null, .val (.ref b92_168), .val (.int (1 : Int32)), .val (.ref b92_168), .val (.ref b92_168)] [(.int ((p1 &&& (2147483647 : Int32)) % ((p0 &&& (7 : Int32)) + (1 : Int32)))), (.ref b68_84)])) _
        refine X258.aaload hx (j := ((p1 &&& (2147483647 : Int32)) % ((p0 &&& (7 : Int32)) + (1 : Int32)))) (v := (.ref b92_168)) (by rw [e258]; exact Ar259.1) (State.isArrayOf_alike hZ.alike Ar259.2.1) rfl Ar259.2.2 hin259 hat259 (g := (mkF m 332 #[.val (.int p0), .val (.int p1), .val (.int p2), .val (.int p3), .val (.int ((p0 &&& (7 : Int32)) + (1 : Int32))), .val (.int ((p1 &&& (2147483647 : Int32)) % ((p0 &&& (7 : Int32)) + (1 : Int32)))), .val (.int ((p2 &&& (2147483647 : Int32)) % ((p0 &&& (7 : Int32)) + (1 : Int32)))), .val (.int (((p3.toUInt32 >>> ((1 : Int32) &&& 31).toUInt32).toInt32) &&& (255 : Int32))), .val (.int (0 : Int32)), .val (.ref b3), .val .null, .val (.ref b92_168), .val (.int (1 : Int32)), .val (.ref b92_168), .val (.ref b92_168)] [(.int ((p1 &&& (2147483647 : Int32)) % ((p0 &&& (7 : Int32)) + (1 : Int32)))), (.ref b68_84)])) rfl rfl (hb hby at_332) _ ?_
        show Steps p.tables e below (T258.setTop (mkF m 333 #[.val (.int p0), .val (.int p1), .val (.int p2), .val (.int p3), .val (.int ((p0 &&& (7 : Int32)) + (1 : Int32))), .val (.int ((p1 &&& (2147483647 : Int32)) % ((p0 &&& (7 : Int32)) + (1 : Int32)))), .val (.int ((p2 &&& (2147483647 : Int32)) % ((p0 &&& (7 : Int32)) + (1 : Int32)))), .val (.int (((p3.toUInt32 >>> ((1 : Int32) &&& 31).toUInt32).toInt32) &&& (255 : Int32))), .val (.int (0 : Int32)), .val (.ref b3), .val .null, .val (.ref b92_168), .val (.int (1 : Int32)), .val (.ref b92_168), .val (.ref b92_168)] [(.ref b92_168)])) _
        refine XS.aload X258.here hx rfl (hb hby at_333) rfl rfl ?_
        show Steps p.tables e below (T258.setTop (mkF m 335 #[.val (.int p0), .val (.int p1), .val (.int p2), .val (.int p3), .val (.int ((p0 &&& (7 : Int32)) + (1 : Int32))), .val (.int ((p1 &&& (2147483647 : Int32)) % ((p0 &&& (7 : Int32)) + (1 : Int32)))), .val (.int ((p2 &&& (2147483647 : Int32)) % ((p0 &&& (7 : Int32)) + (1 : Int32)))), .val (.int (((p3.toUInt32 >>> ((1 : Int32) &&& 31).toUInt32).toInt32) &&& (255 : Int32))), .val (.int (0 : Int32)), .val (.ref b3), .val .null, .val (.ref b92_168), .val (.int (1 : Int32)), .val (.ref b92_168), .val (.ref b92_168)] [(.ref b92_168), (.ref b92_168)])) _
        refine Jvm.RoadKit.acmp (g := (mkF m 335 #[.val (.int p0), .val (.int p1), .val (.int p2), .val (.int p3), .val (.int ((p0 &&& (7 : Int32)) + (1 : Int32))), .val (.int ((p1 &&& (2147483647 : Int32)) % ((p0 &&& (7 : Int32)) + (1 : Int32)))), .val (.int ((p2 &&& (2147483647 : Int32)) % ((p0 &&& (7 : Int32)) + (1 : Int32)))), .val (.int (((p3.toUInt32 >>> ((1 : Int32) &&& 31).toUInt32).toInt32) &&& (255 : Int32))), .val (.int (0 : Int32)), .val (.ref b3), .val .null, .val (.ref b92_168), .val (.int (1 : Int32)), .val (.ref b92_168), .val (.ref b92_168)] [(.ref b92_168), (.ref b92_168)])) X258 hx rfl rfl rfl (pc0 := 335) (pc' := 338) (same := true) rfl (hb hby at_335) rfl (decide_eq_true (congrArg Value.ref rfl)) (by decide) (by decide) ?_
        show Steps p.tables e below (T258.setTop (mkF m 338 #[.val (.int p0), .val (.int p1), .val (.int p2), .val (.int p3), .val (.int ((p0 &&& (7 : Int32)) + (1 : Int32))), .val (.int ((p1 &&& (2147483647 : Int32)) % ((p0 &&& (7 : Int32)) + (1 : Int32)))), .val (.int ((p2 &&& (2147483647 : Int32)) % ((p0 &&& (7 : Int32)) + (1 : Int32)))), .val (.int (((p3.toUInt32 >>> ((1 : Int32) &&& 31).toUInt32).toInt32) &&& (255 : Int32))), .val (.int (0 : Int32)), .val (.ref b3), .val .null, .val (.ref b92_168), .val (.int (1 : Int32)), .val (.ref b92_168), .val (.ref b92_168)] [])) _
        refine XS.iconst X258.here hx rfl (hb hby at_338) ?_
        show Steps p.tables e below (T258.setTop (mkF m 339 #[.val (.int p0), .val (.int p1), .val (.int p2), .val (.int p3), .val (.int ((p0 &&& (7 : Int32)) + (1 : Int32))), .val (.int ((p1 &&& (2147483647 : Int32)) % ((p0 &&& (7 : Int32)) + (1 : Int32)))), .val (.int ((p2 &&& (2147483647 : Int32)) % ((p0 &&& (7 : Int32)) + (1 : Int32)))), .val (.int (((p3.toUInt32 >>> ((1 : Int32) &&& 31).toUInt32).toInt32) &&& (255 : Int32))), .val (.int (0 : Int32)), .val (.ref b3), .val .null, .val (.ref b92_168), .val (.int (1 : Int32)), .val (.ref b92_168), .val (.ref b92_168)] [(.int (1 : Int32))])) _
        refine XS.goto X258.here hx rfl (pc0 := 339) (pc' := 343) rfl (hb hby at_339) (by decide) (by decide) ?_
        show Steps p.tables e below (T258.setTop (mkF m 343 #[.val (.int p0), .val (.int p1), .val (.int p2), .val (.int p3), .val (.int ((p0 &&& (7 : Int32)) + (1 : Int32))), .val (.int ((p1 &&& (2147483647 : Int32)) % ((p0 &&& (7 : Int32)) + (1 : Int32)))), .val (.int ((p2 &&& (2147483647 : Int32)) % ((p0 &&& (7 : Int32)) + (1 : Int32)))), .val (.int (((p3.toUInt32 >>> ((1 : Int32) &&& 31).toUInt32).toInt32) &&& (255 : Int32))), .val (.int (0 : Int32)), .val (.ref b3), .val .null, .val (.ref b92_168), .val (.int (1 : Int32)), .val (.ref b92_168), .val (.ref b92_168)] [(.int (1 : Int32))])) _
        refine XS.istore X258.here hx rfl (hb hby at_343) rfl (l' := #[.val (.int p0), .val (.int p1), .val (.int p2), .val (.int p3), .val (.int ((p0 &&& (7 : Int32)) + (1 : Int32))), .val (.int ((p1 &&& (2147483647 : Int32)) % ((p0 &&& (7 : Int32)) + (1 : Int32)))), .val (.int ((p2 &&& (2147483647 : Int32)) % ((p0 &&& (7 : Int32)) + (1 : Int32)))), .val (.int (((p3.toUInt32 >>> ((1 : Int32) &&& 31).toUInt32).toInt32) &&& (255 : Int32))), .val (.int (0 : Int32)), .val (.ref b3), .val .null, .val (.ref b92_168), .val (.int (1 : Int32)), .val (.ref b92_168), .val (.ref b92_168)]) rfl ?_
        show Steps p.tables e below (T258.setTop (mkF m 345 #[.val (.int p0), .val (.int p1), .val (.int p2), .val (.int p3), .val (.int ((p0 &&& (7 : Int32)) + (1 : Int32))), .val (.int ((p1 &&& (2147483647 : Int32)) % ((p0 &&& (7 : Int32)) + (1 : Int32)))), .val (.int ((p2 &&& (2147483647 : Int32)) % ((p0 &&& (7 : Int32)) + (1 : Int32)))), .val (.int (((p3.toUInt32 >>> ((1 : Int32) &&& 31).toUInt32).toInt32) &&& (255 : Int32))), .val (.int (0 : Int32)), .val (.ref b3), .val .null, .val (.ref b92_168), .val (.int (1 : Int32)), .val (.ref b92_168), .val (.ref b92_168)] [])) _
        refine XS.iload X258.here hx rfl (hb hby at_345) rfl ?_
        show Steps p.tables e below (T258.setTop (mkF m 347 #[.val (.int p0), .val (.int p1), .val (.int p2), .val (.int p3), .val (.int ((p0 &&& (7 : Int32)) + (1 : Int32))), .val (.int ((p1 &&& (2147483647 : Int32)) % ((p0 &&& (7 : Int32)) + (1 : Int32)))), .val (.int ((p2 &&& (2147483647 : Int32)) % ((p0 &&& (7 : Int32)) + (1 : Int32)))), .val (.int (((p3.toUInt32 >>> ((1 : Int32) &&& 31).toUInt32).toInt32) &&& (255 : Int32))), .val (.int (0 : Int32)), .val (.ref b3), .val .null, .val (.ref b92_168), .val (.int (1 : Int32)), .val (.ref b92_168), .val (.ref b92_168)] [(.int (1 : Int32))])) _
        exact retN X258 hx (t := .boolean) Bd.returns (by simp) (hb hby at_347) hr
      · show Q0 Z p0 p1 p2 p3 h0 n0 _ T258.heap _
        rw [e258]
        exact ⟨by unfold sp0; rw [if_pos hc2, if_pos hc190], N253, trivial⟩
    · obtain ⟨T260, X260, e260, st260⟩ := getF X186 hx hZ hown (host := "") (Or.inl (hw _ (tk 80 rfl))) Via.refl e186 c185 (g := (mkF m 210 #[.val (.int p0), .val (.int p1), .val (.int p2), .val (.int p3), .val (.int ((p0 &&& (7 : Int32)) + (1 : Int32))), .val (.int ((p1 &&& (2147483647 : Int32)) % ((p0 &&& (7 : Int32)) + (1 : Int32)))), .val (.int ((p2 &&& (2147483647 : Int32)) % ((p0 &&& (7 : Int32)) + (1 : Int32)))), .val (.int (((p3.toUInt32 >>> ((1 : Int32) &&& 31).toUInt32).toInt32) &&& (255 : Int32))), .val (.int (0 : Int32)), .val (.ref b3), .val .null, .val (.ref b92_168), .val (.int (1 : Int32)), .val (.ref b92_168), .unset] [(.ref b3)])) rfl rfl (hb hby at_210)
      obtain ⟨cl261, Ar261, qa261, Sa261, Ma261, Ha261, Ga261⟩ := id c187
      have hin261 : ¬ (((p2 &&& (2147483647 : Int32)) % ((p0 &&& (7 : Int32)) + (1 : Int32))) < 0 ∨ cl261.slots.size ≤ (((p2 &&& (2147483647 : Int32)) % ((p0 &&& (7 : Int32)) + (1 : Int32)))).toNatClampNeg) := by exact inb_of Sa261 ⟨fk3, fk5⟩
      have hat261 : cl261.slots[(((p2 &&& (2147483647 : Int32)) % ((p0 &&& (7 : Int32)) + (1 : Int32)))).toNatClampNeg]? = some .null := atH Ha261 hin261 (getH_miss fk3 hc190 rfl)
      have c262 := (c183.keep K184c)
      have c263 := ((Fx84_2.keep K168c).keep K184c)
      have c264 := ((Fx84_10.keep K168c).keep K184c)
      have c265 := ((Fx84_14.keep K168c).keep K184c)
      have c266 := ((Fx84_18.keep K168c).keep K184c)
      have c267 := (Fx168_2.keep K184c)
      have c268 := (Fx168_7.keep K184c)
      have c269 := (Fx168_13.keep K184c nin0)
      have c270 := (Fx168_16.keep K184c)
      have c271 := (Fx168_22.keep K184c nin0)
      obtain ⟨T272, h272, k272, X272, e272, E272, A272, st272⟩ := newP X260 hx hZ (hw _ (tk 87 rfl)) e260 (g := (mkF m 234 #[.val (.int p0), .val (.int p1), .val (.int p2), .val (.int p3), .val (.int ((p0 &&& (7 : Int32)) + (1 : Int32))), .val (.int ((p1 &&& (2147483647 : Int32)) % ((p0 &&& (7 : Int32)) + (1 : Int32)))), .val (.int ((p2 &&& (2147483647 : Int32)) % ((p0 &&& (7 : Int32)) + (1 : Int32)))), .val (.int (((p3.toUInt32 >>> ((1 : Int32) &&& 31).toUInt32).toInt32) &&& (255 : Int32))), .val (.int (0 : Int32)), .val (.ref b3), .val .null, .val (.ref b92_168), .val (.int (1 : Int32)), .val (.ref b92_168), .unset] [(.int (1 : Int32)), (.ref b92_168)])) rfl (hb hby at_234) rfl (by decide) (cap := 1) (by decide) (by decide) (by decide) (by decide)
      obtain ⟨b272, g272⟩ : ∃ z, z = T184.heap.size := ⟨_, rfl⟩
      rw [← g272] at A272 st272
      have g_b272 : n0 ≤ b272 := Nat.le_trans (own_old O184) (Nat.le_of_eq g272.symm)
      have ne_b3_b272 : b3 ≠ b272 := Nat.ne_of_lt (Nat.lt_of_lt_of_le c262.lt (Nat.le_of_eq g272.symm))
      have ne_b40_84_b272 : b40_84 ≠ b272 := Nat.ne_of_lt (Nat.lt_of_lt_of_le c263.lt (Nat.le_of_eq g272.symm))
      have ne_b68_84_b272 : b68_84 ≠ b272 := Nat.ne_of_lt (Nat.lt_of_lt_of_le c187.lt (Nat.le_of_eq g272.symm))
      have ne_b47_84_b272 : b47_84 ≠ b272 := Nat.ne_of_lt (Nat.lt_of_lt_of_le c264.lt (Nat.le_of_eq g272.symm))
      have ne_b17_48_84_b272 : b17_48_84 ≠ b272 := Nat.ne_of_lt (Nat.lt_of_lt_of_le c265.lt (Nat.le_of_eq g272.symm))
      have ne_b58_84_b272 : b58_84 ≠ b272 := Nat.ne_of_lt (Nat.lt_of_lt_of_le c266.lt (Nat.le_of_eq g272.symm))
      have ne_b92_168_b272 : b92_168 ≠ b272 := Nat.ne_of_lt (Nat.lt_of_lt_of_le c267.lt (Nat.le_of_eq g272.symm))
      have ne_b125_144_168_b272 : b125_144_168 ≠ b272 := Nat.ne_of_lt (Nat.lt_of_lt_of_le c268.lt (Nat.le_of_eq g272.symm))
      have ne_b101_111_126_144_168_b272 : b101_111_126_144_168 ≠ b272 := Nat.ne_of_lt (Nat.lt_of_lt_of_le c269.lt (Nat.le_of_eq g272.symm))
      have ne_b94_144_168_b272 : b94_144_168 ≠ b272 := Nat.ne_of_lt (Nat.lt_of_lt_of_le c270.lt (Nat.le_of_eq g272.symm))
      have ne_b101_111_117_144_168_b272 : b101_111_117_144_168 ≠ b272 := Nat.ne_of_lt (Nat.lt_of_lt_of_le c271.lt (Nat.le_of_eq g272.symm))
      have O272 : Old Z n0 h272 := O184.ext E272
      have V_b272 : Arv Z h272 b272 k272 .int (1 : Int32) [(.int (0 : Int32))] (.int (0 : Int32)) := (Arv.new A272 (by decide)).pad (pad_rep [] (.int (0 : Int32)) 1)
      obtain ⟨cl273, Ar273, qa273, Sa273, Ma273, Ha273, Ga273⟩ := id V_b272
      have hin273 : ¬ ((0 : Int32) < 0 ∨ cl273.slots.size ≤ ((0 : Int32)).toNatClampNeg) := by exact inb_of Sa273 ⟨by decide, by decide⟩
      obtain ⟨T274, h274, X274, e274, W274, st274⟩ := stI X272 hx hZ e272 Ar273 (j := (0 : Int32)) hin273 (g := (mkF m 240 #[.val (.int p0), .val (.int p1), .val (.int p2), .val (.int p3), .val (.int ((p0 &&& (7 : Int32)) + (1 : Int32))), .val (.int ((p1 &&& (2147483647 : Int32)) % ((p0 &&& (7 : Int32)) + (1 : Int32)))), .val (.int ((p2 &&& (2147483647 : Int32)) % ((p0 &&& (7 : Int32)) + (1 : Int32)))), .val (.int (((p3.toUInt32 >>> ((1 : Int32) &&& 31).toUInt32).toInt32) &&& (255 : Int32))), .val (.int (0 : Int32)), .val (.ref b3), .val .null, .val (.ref b92_168), .val (.int (1 : Int32)), .val (.ref b92_168), .unset] [(.int (((p3.toUInt32 >>> ((1 : Int32) &&& 31).toUInt32).toInt32) &&& (255 : Int32))), (.int (0 : Int32)), (.ref b272), (.ref b272), (.ref b92_168)])) rfl rfl (hb hby at_240)
      have V_b272_274 : Arv Z h274 b272 k272 .int (1 : Int32) [(.int (((p3.toUInt32 >>> ((1 : Int32) &&& 31).toUInt32).toInt32) &&& (255 : Int32)))] (.int (0 : Int32)) := Arv.set Ar273 qa273 Sa273 Ma273 Ha273 Ga273 rfl W274 0 rfl (Nat.le_of_ble_eq_true rfl)
      have O274 : Old Z n0 h274 := O272.wr W274 g_b272
      have N274 := Fr.snoc X274 N184 g_b272
      have c284 := ((c267.ext E272).wr W274)
      have c285 := (((Fx168_4.keep K184c nin0).ext E272).other W274 (Or.inl ne_b92_168_b272))
      have c286 := (((Fx168_3.keep K184c nin0).ext E272).other W274 (Or.inl ne_b92_168_b272))
      have c287 := ((c268.ext E272).wr W274)
      have c288 := (((Fx168_10.keep K184c nin0).ext E272).other W274 (Or.inl ne_b125_144_168_b272))
      have c289 := (((Fx168_8.keep K184c nin0).ext E272).other W274 (Or.inl ne_b125_144_168_b272))
      have c290 := ((c269.ext E272).other W274 ne_b101_111_126_144_168_b272)
      have c291 := ((c270.ext E272).wr W274)
      have c292 := (((Fx168_19.keep K184c nin0).ext E272).other W274 (Or.inl ne_b94_144_168_b272))
      have c293 := (((Fx168_17.keep K184c nin0).ext E272).other W274 (Or.inl ne_b94_144_168_b272))
      have c294 := ((c271.ext E272).other W274 ne_b101_111_117_144_168_b272)
      obtain ⟨cq295, kq295, q295a, q295b, q295c⟩ := isOf hZ e274 c284
      obtain ⟨_, _, ⟨T295, L295, k295, n295⟩, -, X295, ⟨Lc295, hQ295, l295, y295, z295⟩, st295⟩ := X274.virtualBack hx (y := Y11) (z := Y11) hown (mvT hZ (hw _ (tk 88 rfl))) (mvT hZ (hw _ (tk 89 rfl))) (notFace_of_selects (args := #[]) (mvT hZ (hw _ (tk 91 rfl)))) (mvT hZ (hw _ (tk 91 rfl))) (mvT hZ (hw _ (tk 90 rfl))) (by decide) (backOf (W := 0) (rm11x1 l Z a0 hw [] hS0 b92_168 b272 b125_144_168 b101_111_126_144_168 b94_144_168 b101_111_117_144_168 k101_111_126_144_168 k101_111_117_144_168 k272 (((p3.toUInt32 >>> ((1 : Int32) &&& 31).toUInt32).toInt32) &&& (255 : Int32)) h274 n0 O274 g_b92_168 g_b125_144_168 g_b101_111_126_144_168 g_b94_144_168 g_b101_111_117_144_168 g_b272 c284 c285 c286 c287 c288 c289 c290 c291 c292 c293 c294 V_b272_274 Fx168_23 Fx168_24 Fx168_25 Fx168_26 ne_b92_168_b272 Fx168_27 Fx168_28 Fx168_29 ne_b125_144_168_b272 Fx168_30 Fx168_31 ne_b101_111_126_144_168_b272 Fx168_32 ne_b94_144_168_b272 ne_b101_111_117_144_168_b272 (own_notbelow (own_rand ((p3.toUInt32 >>> ((1 : Int32) &&& 31).toUInt32).toInt32) (255 : Int32) 256 (by decide) (by decide)) (by decide)) (own_notbelow (own_rshr (((p3.toUInt32 >>> ((1 : Int32) &&& 31).toUInt32).toInt32) &&& (255 : Int32)) (6 : Int32) 6 4 (own_rand ((p3.toUInt32 >>> ((1 : Int32) &&& 31).toUInt32).toInt32) (255 : Int32) 256 (by decide) (by decide)) (by decide) (by decide)) (by decide))) hZ (hw _ (tk 92 rfl)) (hw _ (tk 49 rfl)) (by decide) (by decide)) q295a q295c (g := (mkF m 241 #[.val (.int p0), .val (.int p1), .val (.int p2), .val (.int p3), .val (.int ((p0 &&& (7 : Int32)) + (1 : Int32))), .val (.int ((p1 &&& (2147483647 : Int32)) % ((p0 &&& (7 : Int32)) + (1 : Int32)))), .val (.int ((p2 &&& (2147483647 : Int32)) % ((p0 &&& (7 : Int32)) + (1 : Int32)))), .val (.int (((p3.toUInt32 >>> ((1 : Int32) &&& 31).toUInt32).toInt32) &&& (255 : Int32))), .val (.int (0 : Int32)), .val (.ref b3), .val .null, .val (.ref b92_168), .val (.int (1 : Int32)), .val (.ref b92_168), .unset] [(.ref b272), (.ref b92_168)])) rfl (by rw [hml]; rfl) (Steps.refl _) (argsL := [(.ref b272)]) (rest := []) (lenOf pd_5 rfl) rfl (by show 2 * 0 + _ ≤ _; exact Nat.le_of_eq rfl) (hb hby at_241) (fun _ _ => ⟨rfl, e274, (by decide : 12 + 0 ≤ _), (by decide : 48 + 0 ≤ _)⟩)
      dsimp only [Pt.U, Pt.locs, Pt.cells, Pt.slots] at X295 l295 y295 z295 st295 hQ295
      subst l295 y295 z295
      obtain ⟨rv295, N295q, e295⟩ := hQ295
      subst rv295
      have N295 := Fr.app N274 N295q
      have c333 := ((c262.ext E272).wr W274)
      have c334 := ((c185.ext E272).other W274 (Or.inl ne_b3_b272))
      have c335 := ((c187.ext E272).other W274 ne_b68_84_b272)
      have c336 := (((Fx168_9.keep K184c nin0).ext E272).other W274 (Or.inl ne_b125_144_168_b272))
      have c337 := (((Fx168_18.keep K184c nin0).ext E272).other W274 (Or.inl ne_b94_144_168_b272))
      have c339 := ((c263.ext E272).wr W274)
      have c340 := ((c264.ext E272).wr W274)
      have c341 := ((c265.ext E272).wr W274)
      have c342 := ((c266.ext E272).wr W274)
      obtain ⟨cq338, kq338, q338a, q338b, q338c⟩ := isOf hZ e295 c333
      obtain ⟨_, _, ⟨T338, L338, k338, n338⟩, -, X338, ⟨Lc338, hQ338, l338, y338, z338⟩, st338⟩ := X295.virtualBack hx (y := Y8) (z := Y8) hown (mvT hZ (hw _ (tk 82 rfl))) (mvT hZ (hw _ (tk 83 rfl))) (notFace_of_selects (args := #[]) (mvT hZ (hw _ (tk 85 rfl)))) (mvT hZ (hw _ (tk 85 rfl))) (mvT hZ (hw _ (tk 84 rfl))) (by decide) (backOf (W := 0) (rm10x3 l Z a0 hw [] hS0 b3 ((p2 &&& (2147483647 : Int32)) % ((p0 &&& (7 : Int32)) + (1 : Int32))) b68_84 b92_168 b125_144_168 b101_111_126_144_168 b94_144_168 b101_111_117_144_168 k68_84 ((p0 &&& (7 : Int32)) + (1 : Int32)) ((p1 &&& (2147483647 : Int32)) % ((p0 &&& (7 : Int32)) + (1 : Int32))) k101_111_126_144_168 k101_111_117_144_168 h274 n0 O274 g_b3 g_b68_84 g_b92_168 g_b125_144_168 g_b101_111_126_144_168 g_b94_144_168 g_b101_111_117_144_168 c333 c334 Fx84_7 c335 c284 c285 c286 c287 c336 c288 c289 c290 c291 c337 c292 c293 c294 ne_b3_b68_84 ne_b3_b92_168 ne_b3_b125_144_168 ne_b3_b101_111_126_144_168 ne_b3_b94_144_168 ne_b3_b101_111_117_144_168 ne_b68_84_b92_168 ne_b68_84_b125_144_168 ne_b68_84_b101_111_126_144_168 ne_b68_84_b94_144_168 ne_b68_84_b101_111_117_144_168 Fx168_23 Fx168_24 Fx168_25 Fx168_26 Fx168_27 Fx168_28 Fx168_29 Fx168_30 Fx168_31 Fx168_32 hc190 fk5 fk3) hZ (hw _ (tk 86 rfl)) (hw _ (tk 3 rfl)) (by decide) (by decide)) q338a q338c (g := (mkF m 258 #[.val (.int p0), .val (.int p1), .val (.int p2), .val (.int p3), .val (.int ((p0 &&& (7 : Int32)) + (1 : Int32))), .val (.int ((p1 &&& (2147483647 : Int32)) % ((p0 &&& (7 : Int32)) + (1 : Int32)))), .val (.int ((p2 &&& (2147483647 : Int32)) % ((p0 &&& (7 : Int32)) + (1 : Int32)))), .val (.int (((p3.toUInt32 >>> ((1 : Int32) &&& 31).toUInt32).toInt32) &&& (255 : Int32))), .val (.int (0 : Int32)), .val (.ref b3), .val .null, .val (.ref b92_168), .val (.int (1 : Int32)), .val (.ref b92_168), .unset] [(.int ((p2 &&& (2147483647 : Int32)) % ((p0 &&& (7 : Int32)) + (1 : Int32)))), (.ref b3)])) rfl (by rw [hml]; rfl) (Steps.refl _) (argsL := [(.int ((p2 &&& (2147483647 : Int32)) % ((p0 &&& (7 : Int32)) + (1 : Int32))))]) (rest := []) (lenOf pd_3 rfl) rfl (by show 2 * 0 + _ ≤ _; exact Nat.le_of_eq rfl) (hb hby at_258) (fun _ _ => ⟨rfl, e295, (by decide : 12 + 5 ≤ _), (by decide : 48 + 10 ≤ _)⟩)
      dsimp only [Pt.U, Pt.locs, Pt.cells, Pt.slots] at X338 l338 y338 z338 st338 hQ338
      subst l338 y338 z338
      obtain ⟨b304_338, b125_305_338, b101_111_126_305_338, k101_111_126_305_338, b94_305_338, b101_111_117_305_338, k101_111_117_305_338, rv338, N338q, O338, K338c, Fe338_0, Fx338_0, Fx338_1, Fx338_2, Fx338_3, Fx338_4, Fx338_5, Fx338_6, Fx338_7, Fx338_8, Fx338_9, Fx338_10, Fx338_11, Fx338_12, Fx338_13, Fx338_14, Fx338_15, Fx338_16, Fx338_17, Fx338_18, Fx338_19, Fx338_20, Fx338_21, Fx338_22, Fx338_23, Fx338_24, Fx338_25, Fx338_26, Fx338_27, Fx338_28, Fx338_29, Fx338_30, Fx338_31, Fx338_32⟩ := hQ338
      subst rv338
      have N338 := Fr.app N295 N338q
      have g_b304_338 := Fx338_0
      have ne_b3_b304_338 : b3 ≠ b304_338 := Nat.ne_of_lt (Nat.lt_of_lt_of_le c333.lt Fx338_1)
      have ne_b40_84_b304_338 : b40_84 ≠ b304_338 := Nat.ne_of_lt (Nat.lt_of_lt_of_le c339.lt Fx338_1)
      have ne_b68_84_b304_338 : b68_84 ≠ b304_338 := Nat.ne_of_lt (Nat.lt_of_lt_of_le c335.lt Fx338_1)
      have ne_b47_84_b304_338 : b47_84 ≠ b304_338 := Nat.ne_of_lt (Nat.lt_of_lt_of_le c340.lt Fx338_1)
      have ne_b17_48_84_b304_338 : b17_48_84 ≠ b304_338 := Nat.ne_of_lt (Nat.lt_of_lt_of_le c341.lt Fx338_1)
      have ne_b58_84_b304_338 : b58_84 ≠ b304_338 := Nat.ne_of_lt (Nat.lt_of_lt_of_le c342.lt Fx338_1)
      have ne_b92_168_b304_338 : b92_168 ≠ b304_338 := Nat.ne_of_lt (Nat.lt_of_lt_of_le c284.lt Fx338_1)
      have ne_b125_144_168_b304_338 : b125_144_168 ≠ b304_338 := Nat.ne_of_lt (Nat.lt_of_lt_of_le c287.lt Fx338_1)
      have ne_b101_111_126_144_168_b304_338 : b101_111_126_144_168 ≠ b304_338 := Nat.ne_of_lt (Nat.lt_of_lt_of_le c290.lt Fx338_1)
      have ne_b94_144_168_b304_338 : b94_144_168 ≠ b304_338 := Nat.ne_of_lt (Nat.lt_of_lt_of_le c291.lt Fx338_1)
      have ne_b101_111_117_144_168_b304_338 : b101_111_117_144_168 ≠ b304_338 := Nat.ne_of_lt (Nat.lt_of_lt_of_le c294.lt Fx338_1)
      have ne_b272_b304_338 : b272 ≠ b304_338 := Nat.ne_of_lt (Nat.lt_of_lt_of_le V_b272_274.lt Fx338_1)
      have g_b125_305_338 := Fx338_5
      have ne_b3_b125_305_338 : b3 ≠ b125_305_338 := Nat.ne_of_lt (Nat.lt_of_lt_of_le c333.lt Fx338_6)
      have ne_b40_84_b125_305_338 : b40_84 ≠ b125_305_338 := Nat.ne_of_lt (Nat.lt_of_lt_of_le c339.lt Fx338_6)
      have ne_b68_84_b125_305_338 : b68_84 ≠ b125_305_338 := Nat.ne_of_lt (Nat.lt_of_lt_of_le c335.lt Fx338_6)
      have ne_b47_84_b125_305_338 : b47_84 ≠ b125_305_338 := Nat.ne_of_lt (Nat.lt_of_lt_of_le c340.lt Fx338_6)
      have ne_b17_48_84_b125_305_338 : b17_48_84 ≠ b125_305_338 := Nat.ne_of_lt (Nat.lt_of_lt_of_le c341.lt Fx338_6)
      have ne_b58_84_b125_305_338 : b58_84 ≠ b125_305_338 := Nat.ne_of_lt (Nat.lt_of_lt_of_le c342.lt Fx338_6)
      have ne_b92_168_b125_305_338 : b92_168 ≠ b125_305_338 := Nat.ne_of_lt (Nat.lt_of_lt_of_le c284.lt Fx338_6)
      have ne_b125_144_168_b125_305_338 : b125_144_168 ≠ b125_305_338 := Nat.ne_of_lt (Nat.lt_of_lt_of_le c287.lt Fx338_6)
      have ne_b101_111_126_144_168_b125_305_338 : b101_111_126_144_168 ≠ b125_305_338 := Nat.ne_of_lt (Nat.lt_of_lt_of_le c290.lt Fx338_6)
      have ne_b94_144_168_b125_305_338 : b94_144_168 ≠ b125_305_338 := Nat.ne_of_lt (Nat.lt_of_lt_of_le c291.lt Fx338_6)
      have ne_b101_111_117_144_168_b125_305_338 : b101_111_117_144_168 ≠ b125_305_338 := Nat.ne_of_lt (Nat.lt_of_lt_of_le c294.lt Fx338_6)
      have ne_b272_b125_305_338 : b272 ≠ b125_305_338 := Nat.ne_of_lt (Nat.lt_of_lt_of_le V_b272_274.lt Fx338_6)
      have g_b101_111_126_305_338 := Fx338_11
      have ne_b3_b101_111_126_305_338 : b3 ≠ b101_111_126_305_338 := Nat.ne_of_lt (Nat.lt_of_lt_of_le c333.lt Fx338_12)
      have ne_b40_84_b101_111_126_305_338 : b40_84 ≠ b101_111_126_305_338 := Nat.ne_of_lt (Nat.lt_of_lt_of_le c339.lt Fx338_12)
      have ne_b68_84_b101_111_126_305_338 : b68_84 ≠ b101_111_126_305_338 := Nat.ne_of_lt (Nat.lt_of_lt_of_le c335.lt Fx338_12)
      have ne_b47_84_b101_111_126_305_338 : b47_84 ≠ b101_111_126_305_338 := Nat.ne_of_lt (Nat.lt_of_lt_of_le c340.lt Fx338_12)
      have ne_b17_48_84_b101_111_126_305_338 : b17_48_84 ≠ b101_111_126_305_338 := Nat.ne_of_lt (Nat.lt_of_lt_of_le c341.lt Fx338_12)
      have ne_b58_84_b101_111_126_305_338 : b58_84 ≠ b101_111_126_305_338 := Nat.ne_of_lt (Nat.lt_of_lt_of_le c342.lt Fx338_12)
      have ne_b92_168_b101_111_126_305_338 : b92_168 ≠ b101_111_126_305_338 := Nat.ne_of_lt (Nat.lt_of_lt_of_le c284.lt Fx338_12)
      have ne_b125_144_168_b101_111_126_305_338 : b125_144_168 ≠ b101_111_126_305_338 := Nat.ne_of_lt (Nat.lt_of_lt_of_le c287.lt Fx338_12)
      have ne_b101_111_126_144_168_b101_111_126_305_338 : b101_111_126_144_168 ≠ b101_111_126_305_338 := Nat.ne_of_lt (Nat.lt_of_lt_of_le c290.lt Fx338_12)
      have ne_b94_144_168_b101_111_126_305_338 : b94_144_168 ≠ b101_111_126_305_338 := Nat.ne_of_lt (Nat.lt_of_lt_of_le c291.lt Fx338_12)
      have ne_b101_111_117_144_168_b101_111_126_305_338 : b101_111_117_144_168 ≠ b101_111_126_305_338 := Nat.ne_of_lt (Nat.lt_of_lt_of_le c294.lt Fx338_12)
      have ne_b272_b101_111_126_305_338 : b272 ≠ b101_111_126_305_338 := Nat.ne_of_lt (Nat.lt_of_lt_of_le V_b272_274.lt Fx338_12)
      have g_b94_305_338 := Fx338_14
      have ne_b3_b94_305_338 : b3 ≠ b94_305_338 := Nat.ne_of_lt (Nat.lt_of_lt_of_le c333.lt Fx338_15)
      have ne_b40_84_b94_305_338 : b40_84 ≠ b94_305_338 := Nat.ne_of_lt (Nat.lt_of_lt_of_le c339.lt Fx338_15)
      have ne_b68_84_b94_305_338 : b68_84 ≠ b94_305_338 := Nat.ne_of_lt (Nat.lt_of_lt_of_le c335.lt Fx338_15)
      have ne_b47_84_b94_305_338 : b47_84 ≠ b94_305_338 := Nat.ne_of_lt (Nat.lt_of_lt_of_le c340.lt Fx338_15)
      have ne_b17_48_84_b94_305_338 : b17_48_84 ≠ b94_305_338 := Nat.ne_of_lt (Nat.lt_of_lt_of_le c341.lt Fx338_15)
      have ne_b58_84_b94_305_338 : b58_84 ≠ b94_305_338 := Nat.ne_of_lt (Nat.lt_of_lt_of_le c342.lt Fx338_15)
      have ne_b92_168_b94_305_338 : b92_168 ≠ b94_305_338 := Nat.ne_of_lt (Nat.lt_of_lt_of_le c284.lt Fx338_15)
      have ne_b125_144_168_b94_305_338 : b125_144_168 ≠ b94_305_338 := Nat.ne_of_lt (Nat.lt_of_lt_of_le c287.lt Fx338_15)
      have ne_b101_111_126_144_168_b94_305_338 : b101_111_126_144_168 ≠ b94_305_338 := Nat.ne_of_lt (Nat.lt_of_lt_of_le c290.lt Fx338_15)
      have ne_b94_144_168_b94_305_338 : b94_144_168 ≠ b94_305_338 := Nat.ne_of_lt (Nat.lt_of_lt_of_le c291.lt Fx338_15)
      have ne_b101_111_117_144_168_b94_305_338 : b101_111_117_144_168 ≠ b94_305_338 := Nat.ne_of_lt (Nat.lt_of_lt_of_le c294.lt Fx338_15)
      have ne_b272_b94_305_338 : b272 ≠ b94_305_338 := Nat.ne_of_lt (Nat.lt_of_lt_of_le V_b272_274.lt Fx338_15)
      have g_b101_111_117_305_338 := Fx338_20
      have ne_b3_b101_111_117_305_338 : b3 ≠ b101_111_117_305_338 := Nat.ne_of_lt (Nat.lt_of_lt_of_le c333.lt Fx338_21)
      have ne_b40_84_b101_111_117_305_338 : b40_84 ≠ b101_111_117_305_338 := Nat.ne_of_lt (Nat.lt_of_lt_of_le c339.lt Fx338_21)
      have ne_b68_84_b101_111_117_305_338 : b68_84 ≠ b101_111_117_305_338 := Nat.ne_of_lt (Nat.lt_of_lt_of_le c335.lt Fx338_21)
      have ne_b47_84_b101_111_117_305_338 : b47_84 ≠ b101_111_117_305_338 := Nat.ne_of_lt (Nat.lt_of_lt_of_le c340.lt Fx338_21)
      have ne_b17_48_84_b101_111_117_305_338 : b17_48_84 ≠ b101_111_117_305_338 := Nat.ne_of_lt (Nat.lt_of_lt_of_le c341.lt Fx338_21)
      have ne_b58_84_b101_111_117_305_338 : b58_84 ≠ b101_111_117_305_338 := Nat.ne_of_lt (Nat.lt_of_lt_of_le c342.lt Fx338_21)
      have ne_b92_168_b101_111_117_305_338 : b92_168 ≠ b101_111_117_305_338 := Nat.ne_of_lt (Nat.lt_of_lt_of_le c284.lt Fx338_21)
      have ne_b125_144_168_b101_111_117_305_338 : b125_144_168 ≠ b101_111_117_305_338 := Nat.ne_of_lt (Nat.lt_of_lt_of_le c287.lt Fx338_21)
      have ne_b101_111_126_144_168_b101_111_117_305_338 : b101_111_126_144_168 ≠ b101_111_117_305_338 := Nat.ne_of_lt (Nat.lt_of_lt_of_le c290.lt Fx338_21)
      have ne_b94_144_168_b101_111_117_305_338 : b94_144_168 ≠ b101_111_117_305_338 := Nat.ne_of_lt (Nat.lt_of_lt_of_le c291.lt Fx338_21)
      have ne_b101_111_117_144_168_b101_111_117_305_338 : b101_111_117_144_168 ≠ b101_111_117_305_338 := Nat.ne_of_lt (Nat.lt_of_lt_of_le c294.lt Fx338_21)
      have ne_b272_b101_111_117_305_338 : b272 ≠ b101_111_117_305_338 := Nat.ne_of_lt (Nat.lt_of_lt_of_le V_b272_274.lt Fx338_21)
      have c343 := (c334.keep K338c (ninS ne_b3_b68_84 nin0))
      obtain ⟨T344, X344, e344, st344⟩ := getF X338 hx hZ hown (host := "") (Or.inl (hw _ (tk 80 rfl))) Via.refl rfl c343 (g := (mkF m 275 #[.val (.int p0), .val (.int p1), .val (.int p2), .val (.int p3), .val (.int ((p0 &&& (7 : Int32)) + (1 : Int32))), .val (.int ((p1 &&& (2147483647 : Int32)) % ((p0 &&& (7 : Int32)) + (1 : Int32)))), .val (.int ((p2 &&& (2147483647 : Int32)) % ((p0 &&& (7 : Int32)) + (1 : Int32)))), .val (.int (((p3.toUInt32 >>> ((1 : Int32) &&& 31).toUInt32).toInt32) &&& (255 : Int32))), .val (.int (0 : Int32)), .val (.ref b3), .val .null, .val (.ref b92_168), .val (.int (1 : Int32)), .val (.ref b92_168), .val (.ref b304_338)] [(.ref b3)])) rfl rfl (hb hby at_275)
      obtain ⟨cl345, Ar345, qa345, Sa345, Ma345, Ha345, Ga345⟩ := id Fe338_0
      have hin345 : ¬ (((p2 &&& (2147483647 : Int32)) % ((p0 &&& (7 : Int32)) + (1 : Int32))) < 0 ∨ cl345.slots.size ≤ (((p2 &&& (2147483647 : Int32)) % ((p0 &&& (7 : Int32)) + (1 : Int32)))).toNatClampNeg) := by exact inb_of Sa345 ⟨fk3, fk5⟩
      have hat345 : cl345.slots[(((p2 &&& (2147483647 : Int32)) % ((p0 &&& (7 : Int32)) + (1 : Int32)))).toNatClampNeg]? = some (.ref b304_338) := atH Ha345 hin345 (getH_hit fk3 rfl)
      obtain ⟨T346, X346, e346, st346⟩ := getF X344 hx hZ hown (host := "") (Or.inl (hw _ (tk 80 rfl))) Via.refl e344 c343 (g := (mkF m 327 #[.val (.int p0), .val (.int p1), .val (.int p2), .val (.int p3), .val (.int ((p0 &&& (7 : Int32)) + (1 : Int32))), .val (.int ((p1 &&& (2147483647 : Int32)) % ((p0 &&& (7 : Int32)) + (1 : Int32)))), .val (.int ((p2 &&& (2147483647 : Int32)) % ((p0 &&& (7 : Int32)) + (1 : Int32)))), .val (.int (((p3.toUInt32 >>> ((1 : Int32) &&& 31).toUInt32).toInt32) &&& (255 : Int32))), .val (.int (0 : Int32)), .val (.ref b3), .val .null, .val (.ref b92_168), .val (.int (1 : Int32)), .val (.ref b92_168), .val (.ref b304_338)] [(.ref b3)])) rfl rfl (hb hby at_327)
      obtain ⟨cl347, Ar347, qa347, Sa347, Ma347, Ha347, Ga347⟩ := id Fe338_0
      have hin347 : ¬ (((p1 &&& (2147483647 : Int32)) % ((p0 &&& (7 : Int32)) + (1 : Int32))) < 0 ∨ cl347.slots.size ≤ (((p1 &&& (2147483647 : Int32)) % ((p0 &&& (7 : Int32)) + (1 : Int32)))).toNatClampNeg) := by exact inb_of Sa347 ⟨fk2, fk4⟩
      have hat347 : cl347.slots[(((p1 &&& (2147483647 : Int32)) % ((p0 &&& (7 : Int32)) + (1 : Int32)))).toNatClampNeg]? = some (.ref b92_168) := atH Ha347 hin347 (getH_miss fk2 (Ne.symm hc190) (getH_hit fk2 rfl))
      obtain ⟨fs, hr, hrun, hended, hW, hsame⟩ := X346.leave (v := some (.int (1 : Int32))) (fun h => by rw [Bd.returns] at h; cases h)
      refine ⟨_, _, pre189 _ ?_, hrun, hended, _, _, rfl, ?_, ⟨_, rfl⟩, hW, hsame.mono (by decide) (by decide)⟩
      · show Steps p.tables e below (T186.setTop (mkF m 200 #[.val (.int p0), .val (.int p1), .val (.int p2), .val (.int p3), .val (.int ((p0 &&& (7 : Int32)) + (1 : Int32))), .val (.int ((p1 &&& (2147483647 : Int32)) % ((p0 &&& (7 : Int32)) + (1 : Int32)))), .val (.int ((p2 &&& (2147483647 : Int32)) % ((p0 &&& (7 : Int32)) + (1 : Int32)))), .val (.int (((p3.toUInt32 >>> ((1 : Int32) &&& 31).toUInt32).toInt32) &&& (255 : Int32))), .val (.int (0 : Int32)), .val (.ref b3), .val .null, .val (.ref b92_168), .val (.int (1 : Int32)), .val (.ref b92_168), .unset] [(.int ((p1 &&& (2147483647 : Int32)) % ((p0 &&& (7 : Int32)) + (1 : Int32)))), (.int ((p2 &&& (2147483647 : Int32)) % ((p0 &&& (7 : Int32)) + (1 : Int32))))])) _
        refine XS.icmpNo X186.here hx rfl (hb hby at_200) rfl (feq hc190).1 ?_
        show Steps p.tables e below (T186.setTop (mkF m 203 #[.val (.int p0), .val (.int p1), .val (.int p2), .val (.int p3), .val (.int ((p0 &&& (7 : Int32)) + (1 : Int32))), .val (.int ((p1 &&& (2147483647 : Int32)) % ((p0 &&& (7 : Int32)) + (1 : Int32)))), .val (.int ((p2 &&& (2147483647 : Int32)) % ((p0 &&& (7 : Int32)) + (1 : Int32)))), .val (.int (((p3.toUInt32 >>> ((1 : Int32) &&& 31).toUInt32).toInt32) &&& (255 : Int32))), .val (.int (0 : Int32)), .val (.ref b3), .val .null, .val (.ref b92_168), .val (.int (1 : Int32)), .val (.ref b92_168), .unset] [])) _
        refine XS.iload X186.here hx rfl (hb hby at_203) rfl ?_
        show Steps p.tables e below (T186.setTop (mkF m 205 #[.val (.int p0), .val (.int p1), .val (.int p2), .val (.int p3), .val (.int ((p0 &&& (7 : Int32)) + (1 : Int32))), .val (.int ((p1 &&& (2147483647 : Int32)) % ((p0 &&& (7 : Int32)) + (1 : Int32)))), .val (.int ((p2 &&& (2147483647 : Int32)) % ((p0 &&& (7 : Int32)) + (1 : Int32)))), .val (.int (((p3.toUInt32 >>> ((1 : Int32) &&& 31).toUInt32).toInt32) &&& (255 : Int32))), .val (.int (0 : Int32)), .val (.ref b3), .val .null, .val (.ref b92_168), .val (.int (1 : Int32)), .val (.ref b92_168), .unset] [(.int (1 : Int32))])) _
        refine XS.ifNo X186.here hx rfl (hb hby at_205) rfl ((if0 _ _).trans (feq (by decide : ¬ ((1 : Int32) = (0 : Int32)))).1) ?_
        show Steps p.tables e below (T186.setTop (mkF m 208 #[.val (.int p0), .val (.int p1), .val (.int p2), .val (.int p3), .val (.int ((p0 &&& (7 : Int32)) + (1 : Int32))), .val (.int ((p1 &&& (2147483647 : Int32)) % ((p0 &&& (7 : Int32)) + (1 : Int32)))), .val (.int ((p2 &&& (2147483647 : Int32)) % ((p0 &&& (7 : Int32)) + (1 : Int32)))), .val (.int (((p3.toUInt32 >>> ((1 : Int32) &&& 31).toUInt32).toInt32) &&& (255 : Int32))), .val (.int (0 : Int32)), .val (.ref b3), .val .null, .val (.ref b92_168), .val (.int (1 : Int32)), .val (.ref b92_168), .unset] [])) _
        refine XS.aload X186.here hx rfl (hb hby at_208) rfl rfl ?_
        show Steps p.tables e below (T186.setTop (mkF m 210 #[.val (.int p0), .val (.int p1), .val (.int p2), .val (.int p3), .val (.int ((p0 &&& (7 : Int32)) + (1 : Int32))), .val (.int ((p1 &&& (2147483647 : Int32)) % ((p0 &&& (7 : Int32)) + (1 : Int32)))), .val (.int ((p2 &&& (2147483647 : Int32)) % ((p0 &&& (7 : Int32)) + (1 : Int32)))), .val (.int (((p3.toUInt32 >>> ((1 : Int32) &&& 31).toUInt32).toInt32) &&& (255 : Int32))), .val (.int (0 : Int32)), .val (.ref b3), .val .null, .val (.ref b92_168), .val (.int (1 : Int32)), .val (.ref b92_168), .unset] [(.ref b3)])) _
        refine st260 _ ?_
        show Steps p.tables e below (T260.setTop (mkF m 213 #[.val (.int p0), .val (.int p1), .val (.int p2), .val (.int p3), .val (.int ((p0 &&& (7 : Int32)) + (1 : Int32))), .val (.int ((p1 &&& (2147483647 : Int32)) % ((p0 &&& (7 : Int32)) + (1 : Int32)))), .val (.int ((p2 &&& (2147483647 : Int32)) % ((p0 &&& (7 : Int32)) + (1 : Int32)))), .val (.int (((p3.toUInt32 >>> ((1 : Int32) &&& 31).toUInt32).toInt32) &&& (255 : Int32))), .val (.int (0 : Int32)), .val (.ref b3), .val .null, .val (.ref b92_168), .val (.int (1 : Int32)), .val (.ref b92_168), .unset] [(.ref b68_84)])) _
        refine XS.iload X260.here hx rfl (hb hby at_213) rfl ?_
        show Steps p.tables e below (T260.setTop (mkF m 215 #[.val (.int p0), .val (.int p1), .val (.int p2), .val (.int p3), .val (.int ((p0 &&& (7 : Int32)) + (1 : Int32))), .val (.int ((p1 &&& (2147483647 : Int32)) % ((p0 &&& (7 : Int32)) + (1 : Int32)))), .val (.int ((p2 &&& (2147483647 : Int32)) % ((p0 &&& (7 : Int32)) + (1 : Int32)))), .val (.int (((p3.toUInt32 >>> ((1 : Int32) &&& 31).toUInt32).toInt32) &&& (255 : Int32))), .val (.int (0 : Int32)), .val (.ref b3), .val .null, .val (.ref b92_168), .val (.int (1 : Int32)), .val (.ref b92_168), .unset] [(.int ((p2 &&& (2147483647 : Int32)) % ((p0 &&& (7 : Int32)) + (1 : Int32)))), (.ref b68_84)])) _
        refine X260.aaload hx (j := ((p2 &&& (2147483647 : Int32)) % ((p0 &&& (7 : Int32)) + (1 : Int32)))) (v := .null) (by rw [e260]; exact Ar261.1) (State.isArrayOf_alike hZ.alike Ar261.2.1) rfl Ar261.2.2 hin261 hat261 (g := (mkF m 215 #[.val (.int p0), .val (.int p1), .val (.int p2), .val (.int p3), .val (.int ((p0 &&& (7 : Int32)) + (1 : Int32))), .val (.int ((p1 &&& (2147483647 : Int32)) % ((p0 &&& (7 : Int32)) + (1 : Int32)))), .val (.int ((p2 &&& (2147483647 : Int32)) % ((p0 &&& (7 : Int32)) + (1 : Int32)))), .val (.int (((p3.toUInt32 >>> ((1 : Int32) &&& 31).toUInt32).toInt32) &&& (255 : Int32))), .val (.int (0 : Int32)), .val (.ref b3), .val .null, .val (.ref b92_168), .val (.int (1 : Int32)), .val (.ref b92_168), .unset] [(.int ((p2 &&& (2147483647 : Int32)) % ((p0 &&& (7 : Int32)) + (1 : Int32)))), (.ref b68_84)])) rfl rfl (hb hby at_215) _ ?_
        show Steps p.tables e below (T260.setTop (mkF m 216 #[.val (.int p0), .val (.int p1), .val (.int p2), .val (.int p3), .val (.int ((p0 &&& (7 : Int32)) + (1 : Int32))), .val (.int ((p1 &&& (2147483647 : Int32)) % ((p0 &&& (7 : Int32)) + (1 : Int32)))), .val (.int ((p2 &&& (2147483647 : Int32)) % ((p0 &&& (7 : Int32)) + (1 : Int32)))), .val (.int (((p3.toUInt32 >>> ((1 : Int32) &&& 31).toUInt32).toInt32) &&& (255 : Int32))), .val (.int (0 : Int32)), .val (.ref b3), .val .null, .val (.ref b92_168), .val (.int (1 : Int32)), .val (.ref b92_168), .unset] [.null])) _
        refine XS.ifnonnullNo X260.here hx rfl (hb hby at_216) rfl ?_
        show Steps p.tables e below (T260.setTop (mkF m 219 #[.val (.int p0), .val (.int p1), .val (.int p2), .val (.int p3), .val (.int ((p0 &&& (7 : Int32)) + (1 : Int32))), .val (.int ((p1 &&& (2147483647 : Int32)) % ((p0 &&& (7 : Int32)) + (1 : Int32)))), .val (.int ((p2 &&& (2147483647 : Int32)) % ((p0 &&& (7 : Int32)) + (1 : Int32)))), .val (.int (((p3.toUInt32 >>> ((1 : Int32) &&& 31).toUInt32).toInt32) &&& (255 : Int32))), .val (.int (0 : Int32)), .val (.ref b3), .val .null, .val (.ref b92_168), .val (.int (1 : Int32)), .val (.ref b92_168), .unset] [])) _
        refine XS.iconst X260.here hx rfl (hb hby at_219) ?_
        show Steps p.tables e below (T260.setTop (mkF m 220 #[.val (.int p0), .val (.int p1), .val (.int p2), .val (.int p3), .val (.int ((p0 &&& (7 : Int32)) + (1 : Int32))), .val (.int ((p1 &&& (2147483647 : Int32)) % ((p0 &&& (7 : Int32)) + (1 : Int32)))), .val (.int ((p2 &&& (2147483647 : Int32)) % ((p0 &&& (7 : Int32)) + (1 : Int32)))), .val (.int (((p3.toUInt32 >>> ((1 : Int32) &&& 31).toUInt32).toInt32) &&& (255 : Int32))), .val (.int (0 : Int32)), .val (.ref b3), .val .null, .val (.ref b92_168), .val (.int (1 : Int32)), .val (.ref b92_168), .unset] [(.int (1 : Int32))])) _
        refine XS.goto X260.here hx rfl (pc0 := 220) (pc' := 224) rfl (hb hby at_220) (by decide) (by decide) ?_
        show Steps p.tables e below (T260.setTop (mkF m 224 #[.val (.int p0), .val (.int p1), .val (.int p2), .val (.int p3), .val (.int ((p0 &&& (7 : Int32)) + (1 : Int32))), .val (.int ((p1 &&& (2147483647 : Int32)) % ((p0 &&& (7 : Int32)) + (1 : Int32)))), .val (.int ((p2 &&& (2147483647 : Int32)) % ((p0 &&& (7 : Int32)) + (1 : Int32)))), .val (.int (((p3.toUInt32 >>> ((1 : Int32) &&& 31).toUInt32).toInt32) &&& (255 : Int32))), .val (.int (0 : Int32)), .val (.ref b3), .val .null, .val (.ref b92_168), .val (.int (1 : Int32)), .val (.ref b92_168), .unset] [(.int (1 : Int32))])) _
        refine XS.istore X260.here hx rfl (hb hby at_224) rfl (l' := #[.val (.int p0), .val (.int p1), .val (.int p2), .val (.int p3), .val (.int ((p0 &&& (7 : Int32)) + (1 : Int32))), .val (.int ((p1 &&& (2147483647 : Int32)) % ((p0 &&& (7 : Int32)) + (1 : Int32)))), .val (.int ((p2 &&& (2147483647 : Int32)) % ((p0 &&& (7 : Int32)) + (1 : Int32)))), .val (.int (((p3.toUInt32 >>> ((1 : Int32) &&& 31).toUInt32).toInt32) &&& (255 : Int32))), .val (.int (0 : Int32)), .val (.ref b3), .val .null, .val (.ref b92_168), .val (.int (1 : Int32)), .val (.ref b92_168), .unset]) rfl ?_
        show Steps p.tables e below (T260.setTop (mkF m 226 #[.val (.int p0), .val (.int p1), .val (.int p2), .val (.int p3), .val (.int ((p0 &&& (7 : Int32)) + (1 : Int32))), .val (.int ((p1 &&& (2147483647 : Int32)) % ((p0 &&& (7 : Int32)) + (1 : Int32)))), .val (.int ((p2 &&& (2147483647 : Int32)) % ((p0 &&& (7 : Int32)) + (1 : Int32)))), .val (.int (((p3.toUInt32 >>> ((1 : Int32) &&& 31).toUInt32).toInt32) &&& (255 : Int32))), .val (.int (0 : Int32)), .val (.ref b3), .val .null, .val (.ref b92_168), .val (.int (1 : Int32)), .val (.ref b92_168), .unset] [])) _
        refine XS.iload X260.here hx rfl (hb hby at_226) rfl ?_
        show Steps p.tables e below (T260.setTop (mkF m 228 #[.val (.int p0), .val (.int p1), .val (.int p2), .val (.int p3), .val (.int ((p0 &&& (7 : Int32)) + (1 : Int32))), .val (.int ((p1 &&& (2147483647 : Int32)) % ((p0 &&& (7 : Int32)) + (1 : Int32)))), .val (.int ((p2 &&& (2147483647 : Int32)) % ((p0 &&& (7 : Int32)) + (1 : Int32)))), .val (.int (((p3.toUInt32 >>> ((1 : Int32) &&& 31).toUInt32).toInt32) &&& (255 : Int32))), .val (.int (0 : Int32)), .val (.ref b3), .val .null, .val (.ref b92_168), .val (.int (1 : Int32)), .val (.ref b92_168), .unset] [(.int (1 : Int32))])) _
        refine XS.ifNo X260.here hx rfl (hb hby at_228) rfl ((if0 _ _).trans (feq (by decide : ¬ ((1 : Int32) = (0 : Int32)))).1) ?_
        show Steps p.tables e below (T260.setTop (mkF m 231 #[.val (.int p0), .val (.int p1), .val (.int p2), .val (.int p3), .val (.int ((p0 &&& (7 : Int32)) + (1 : Int32))), .val (.int ((p1 &&& (2147483647 : Int32)) % ((p0 &&& (7 : Int32)) + (1 : Int32)))), .val (.int ((p2 &&& (2147483647 : Int32)) % ((p0 &&& (7 : Int32)) + (1 : Int32)))), .val (.int (((p3.toUInt32 >>> ((1 : Int32) &&& 31).toUInt32).toInt32) &&& (255 : Int32))), .val (.int (0 : Int32)), .val (.ref b3), .val .null, .val (.ref b92_168), .val (.int (1 : Int32)), .val (.ref b92_168), .unset] [])) _
        refine XS.aload X260.here hx rfl (hb hby at_231) rfl rfl ?_
        show Steps p.tables e below (T260.setTop (mkF m 233 #[.val (.int p0), .val (.int p1), .val (.int p2), .val (.int p3), .val (.int ((p0 &&& (7 : Int32)) + (1 : Int32))), .val (.int ((p1 &&& (2147483647 : Int32)) % ((p0 &&& (7 : Int32)) + (1 : Int32)))), .val (.int ((p2 &&& (2147483647 : Int32)) % ((p0 &&& (7 : Int32)) + (1 : Int32)))), .val (.int (((p3.toUInt32 >>> ((1 : Int32) &&& 31).toUInt32).toInt32) &&& (255 : Int32))), .val (.int (0 : Int32)), .val (.ref b3), .val .null, .val (.ref b92_168), .val (.int (1 : Int32)), .val (.ref b92_168), .unset] [(.ref b92_168)])) _
        refine XS.iconst X260.here hx rfl (hb hby at_233) ?_
        show Steps p.tables e below (T260.setTop (mkF m 234 #[.val (.int p0), .val (.int p1), .val (.int p2), .val (.int p3), .val (.int ((p0 &&& (7 : Int32)) + (1 : Int32))), .val (.int ((p1 &&& (2147483647 : Int32)) % ((p0 &&& (7 : Int32)) + (1 : Int32)))), .val (.int ((p2 &&& (2147483647 : Int32)) % ((p0 &&& (7 : Int32)) + (1 : Int32)))), .val (.int (((p3.toUInt32 >>> ((1 : Int32) &&& 31).toUInt32).toInt32) &&& (255 : Int32))), .val (.int (0 : Int32)), .val (.ref b3), .val .null, .val (.ref b92_168), .val (.int (1 : Int32)), .val (.ref b92_168), .unset] [(.int (1 : Int32)), (.ref b92_168)])) _
        refine st272 _ ?_
        show Steps p.tables e below (T272.setTop (mkF m 236 #[.val (.int p0), .val (.int p1), .val (.int p2), .val (.int p3), .val (.int ((p0 &&& (7 : Int32)) + (1 : Int32))), .val (.int ((p1 &&& (2147483647 : Int32)) % ((p0 &&& (7 : Int32)) + (1 : Int32)))), .val (.int ((p2 &&& (2147483647 : Int32)) % ((p0 &&& (7 : Int32)) + (1 : Int32)))), .val (.int (((p3.toUInt32 >>> ((1 : Int32) &&& 31).toUInt32).toInt32) &&& (255 : Int32))), .val (.int (0 : Int32)), .val (.ref b3), .val .null, .val (.ref b92_168), .val (.int (1 : Int32)), .val (.ref b92_168), .unset] [(.ref b272), (.ref b92_168)])) _
        refine XS.dup X272.here hx rfl (hb hby at_236) rfl rfl ?_
        show Steps p.tables e below (T272.setTop (mkF m 237 #[.val (.int p0), .val (.int p1), .val (.int p2), .val (.int p3), .val (.int ((p0 &&& (7 : Int32)) + (1 : Int32))), .val (.int ((p1 &&& (2147483647 : Int32)) % ((p0 &&& (7 : Int32)) + (1 : Int32)))), .val (.int ((p2 &&& (2147483647 : Int32)) % ((p0 &&& (7 : Int32)) + (1 : Int32)))), .val (.int (((p3.toUInt32 >>> ((1 : Int32) &&& 31).toUInt32).toInt32) &&& (255 : Int32))), .val (.int (0 : Int32)), .val (.ref b3), .val .null, .val (.ref b92_168), .val (.int (1 : Int32)), .val (.ref b92_168), .unset] [(.ref b272), (.ref b272), (.ref b92_168)])) _
        refine XS.iconst X272.here hx rfl (hb hby at_237) ?_
        show Steps p.tables e below (T272.setTop (mkF m 238 #[.val (.int p0), .val (.int p1), .val (.int p2), .val (.int p3), .val (.int ((p0 &&& (7 : Int32)) + (1 : Int32))), .val (.int ((p1 &&& (2147483647 : Int32)) % ((p0 &&& (7 : Int32)) + (1 : Int32)))), .val (.int ((p2 &&& (2147483647 : Int32)) % ((p0 &&& (7 : Int32)) + (1 : Int32)))), .val (.int (((p3.toUInt32 >>> ((1 : Int32) &&& 31).toUInt32).toInt32) &&& (255 : Int32))), .val (.int (0 : Int32)), .val (.ref b3), .val .null, .val (.ref b92_168), .val (.int (1 : Int32)), .val (.ref b92_168), .unset] [(.int (0 : Int32)), (.ref b272), (.ref b272), (.ref b92_168)])) _
        refine XS.iload X272.here hx rfl (hb hby at_238) rfl ?_
        show Steps p.tables e below (T272.setTop (mkF m 240 #[.val (.int p0), .val (.int p1), .val (.int p2), .val (.int p3), .val (.int ((p0 &&& (7 : Int32)) + (1 : Int32))), .val (.int ((p1 &&& (2147483647 : Int32)) % ((p0 &&& (7 : Int32)) + (1 : Int32)))), .val (.int ((p2 &&& (2147483647 : Int32)) % ((p0 &&& (7 : Int32)) + (1 : Int32)))), .val (.int (((p3.toUInt32 >>> ((1 : Int32) &&& 31).toUInt32).toInt32) &&& (255 : Int32))), .val (.int (0 : Int32)), .val (.ref b3), .val .null, .val (.ref b92_168), .val (.int (1 : Int32)), .val (.ref b92_168), .unset] [(.int (((p3.toUInt32 >>> ((1 : Int32) &&& 31).toUInt32).toInt32) &&& (255 : Int32))), (.int (0 : Int32)), (.ref b272), (.ref b272), (.ref b92_168)])) _
        refine st274 _ ?_
        show Steps p.tables e below (T274.setTop (mkF m 241 #[.val (.int p0), .val (.int p1), .val (.int p2), .val (.int p3), .val (.int ((p0 &&& (7 : Int32)) + (1 : Int32))), .val (.int ((p1 &&& (2147483647 : Int32)) % ((p0 &&& (7 : Int32)) + (1 : Int32)))), .val (.int ((p2 &&& (2147483647 : Int32)) % ((p0 &&& (7 : Int32)) + (1 : Int32)))), .val (.int (((p3.toUInt32 >>> ((1 : Int32) &&& 31).toUInt32).toInt32) &&& (255 : Int32))), .val (.int (0 : Int32)), .val (.ref b3), .val .null, .val (.ref b92_168), .val (.int (1 : Int32)), .val (.ref b92_168), .unset] [(.ref b272), (.ref b92_168)])) _
        refine st295.trans ?_
        show Steps p.tables e below (T295.setTop (mkF m 244 #[.val (.int p0), .val (.int p1), .val (.int p2), .val (.int p3), .val (.int ((p0 &&& (7 : Int32)) + (1 : Int32))), .val (.int ((p1 &&& (2147483647 : Int32)) % ((p0 &&& (7 : Int32)) + (1 : Int32)))), .val (.int ((p2 &&& (2147483647 : Int32)) % ((p0 &&& (7 : Int32)) + (1 : Int32)))), .val (.int (((p3.toUInt32 >>> ((1 : Int32) &&& 31).toUInt32).toInt32) &&& (255 : Int32))), .val (.int (0 : Int32)), .val (.ref b3), .val .null, .val (.ref b92_168), .val (.int (1 : Int32)), .val (.ref b92_168), .unset] [.null])) _
        refine XS.ifnonnullNo X295.here hx rfl (hb hby at_244) rfl ?_
        show Steps p.tables e below (T295.setTop (mkF m 247 #[.val (.int p0), .val (.int p1), .val (.int p2), .val (.int p3), .val (.int ((p0 &&& (7 : Int32)) + (1 : Int32))), .val (.int ((p1 &&& (2147483647 : Int32)) % ((p0 &&& (7 : Int32)) + (1 : Int32)))), .val (.int ((p2 &&& (2147483647 : Int32)) % ((p0 &&& (7 : Int32)) + (1 : Int32)))), .val (.int (((p3.toUInt32 >>> ((1 : Int32) &&& 31).toUInt32).toInt32) &&& (255 : Int32))), .val (.int (0 : Int32)), .val (.ref b3), .val .null, .val (.ref b92_168), .val (.int (1 : Int32)), .val (.ref b92_168), .unset] [])) _
        refine XS.iconst X295.here hx rfl (hb hby at_247) ?_
        show Steps p.tables e below (T295.setTop (mkF m 248 #[.val (.int p0), .val (.int p1), .val (.int p2), .val (.int p3), .val (.int ((p0 &&& (7 : Int32)) + (1 : Int32))), .val (.int ((p1 &&& (2147483647 : Int32)) % ((p0 &&& (7 : Int32)) + (1 : Int32)))), .val (.int ((p2 &&& (2147483647 : Int32)) % ((p0 &&& (7 : Int32)) + (1 : Int32)))), .val (.int (((p3.toUInt32 >>> ((1 : Int32) &&& 31).toUInt32).toInt32) &&& (255 : Int32))), .val (.int (0 : Int32)), .val (.ref b3), .val .null, .val (.ref b92_168), .val (.int (1 : Int32)), .val (.ref b92_168), .unset] [(.int (1 : Int32))])) _
        refine XS.goto X295.here hx rfl (pc0 := 248) (pc' := 252) rfl (hb hby at_248) (by decide) (by decide) ?_
        show Steps p.tables e below (T295.setTop (mkF m 252 #[.val (.int p0), .val (.int p1), .val (.int p2), .val (.int p3), .val (.int ((p0 &&& (7 : Int32)) + (1 : Int32))), .val (.int ((p1 &&& (2147483647 : Int32)) % ((p0 &&& (7 : Int32)) + (1 : Int32)))), .val (.int ((p2 &&& (2147483647 : Int32)) % ((p0 &&& (7 : Int32)) + (1 : Int32)))), .val (.int (((p3.toUInt32 >>> ((1 : Int32) &&& 31).toUInt32).toInt32) &&& (255 : Int32))), .val (.int (0 : Int32)), .val (.ref b3), .val .null, .val (.ref b92_168), .val (.int (1 : Int32)), .val (.ref b92_168), .unset] [(.int (1 : Int32))])) _
        refine XS.istore X295.here hx rfl (hb hby at_252) rfl (l' := #[.val (.int p0), .val (.int p1), .val (.int p2), .val (.int p3), .val (.int ((p0 &&& (7 : Int32)) + (1 : Int32))), .val (.int ((p1 &&& (2147483647 : Int32)) % ((p0 &&& (7 : Int32)) + (1 : Int32)))), .val (.int ((p2 &&& (2147483647 : Int32)) % ((p0 &&& (7 : Int32)) + (1 : Int32)))), .val (.int (((p3.toUInt32 >>> ((1 : Int32) &&& 31).toUInt32).toInt32) &&& (255 : Int32))), .val (.int (0 : Int32)), .val (.ref b3), .val .null, .val (.ref b92_168), .val (.int (1 : Int32)), .val (.ref b92_168), .unset]) rfl ?_
        show Steps p.tables e below (T295.setTop (mkF m 254 #[.val (.int p0), .val (.int p1), .val (.int p2), .val (.int p3), .val (.int ((p0 &&& (7 : Int32)) + (1 : Int32))), .val (.int ((p1 &&& (2147483647 : Int32)) % ((p0 &&& (7 : Int32)) + (1 : Int32)))), .val (.int ((p2 &&& (2147483647 : Int32)) % ((p0 &&& (7 : Int32)) + (1 : Int32)))), .val (.int (((p3.toUInt32 >>> ((1 : Int32) &&& 31).toUInt32).toInt32) &&& (255 : Int32))), .val (.int (0 : Int32)), .val (.ref b3), .val .null, .val (.ref b92_168), .val (.int (1 : Int32)), .val (.ref b92_168), .unset] [])) _
        refine XS.aload X295.here hx rfl (hb hby at_254) rfl rfl ?_
        show Steps p.tables e below (T295.setTop (mkF m 256 #[.val (.int p0), .val (.int p1), .val (.int p2), .val (.int p3), .val (.int ((p0 &&& (7 : Int32)) + (1 : Int32))), .val (.int ((p1 &&& (2147483647 : Int32)) % ((p0 &&& (7 : Int32)) + (1 : Int32)))), .val (.int ((p2 &&& (2147483647 : Int32)) % ((p0 &&& (7 : Int32)) + (1 : Int32)))), .val (.int (((p3.toUInt32 >>> ((1 : Int32) &&& 31).toUInt32).toInt32) &&& (255 : Int32))), .val (.int (0 : Int32)), .val (.ref b3), .val .null, .val (.ref b92_168), .val (.int (1 : Int32)), .val (.ref b92_168), .unset] [(.ref b3)])) _
        refine XS.iload X295.here hx rfl (hb hby at_256) rfl ?_
        show Steps p.tables e below (T295.setTop (mkF m 258 #[.val (.int p0), .val (.int p1), .val (.int p2), .val (.int p3), .val (.int ((p0 &&& (7 : Int32)) + (1 : Int32))), .val (.int ((p1 &&& (2147483647 : Int32)) % ((p0 &&& (7 : Int32)) + (1 : Int32)))), .val (.int ((p2 &&& (2147483647 : Int32)) % ((p0 &&& (7 : Int32)) + (1 : Int32)))), .val (.int (((p3.toUInt32 >>> ((1 : Int32) &&& 31).toUInt32).toInt32) &&& (255 : Int32))), .val (.int (0 : Int32)), .val (.ref b3), .val .null, .val (.ref b92_168), .val (.int (1 : Int32)), .val (.ref b92_168), .unset] [(.int ((p2 &&& (2147483647 : Int32)) % ((p0 &&& (7 : Int32)) + (1 : Int32)))), (.ref b3)])) _
        refine st338.trans ?_
        show Steps p.tables e below (T338.setTop (mkF m 261 #[.val (.int p0), .val (.int p1), .val (.int p2), .val (.int p3), .val (.int ((p0 &&& (7 : Int32)) + (1 : Int32))), .val (.int ((p1 &&& (2147483647 : Int32)) % ((p0 &&& (7 : Int32)) + (1 : Int32)))), .val (.int ((p2 &&& (2147483647 : Int32)) % ((p0 &&& (7 : Int32)) + (1 : Int32)))), .val (.int (((p3.toUInt32 >>> ((1 : Int32) &&& 31).toUInt32).toInt32) &&& (255 : Int32))), .val (.int (0 : Int32)), .val (.ref b3), .val .null, .val (.ref b92_168), .val (.int (1 : Int32)), .val (.ref b92_168), .unset] [(.ref b304_338)])) _
        refine XS.astore X338.here hx rfl (hb hby at_261) rfl rfl (l' := #[.val (.int p0), .val (.int p1), .val (.int p2), .val (.int p3), .val (.int ((p0 &&& (7 : Int32)) + (1 : Int32))), .val (.int ((p1 &&& (2147483647 : Int32)) % ((p0 &&& (7 : Int32)) + (1 : Int32)))), .val (.int ((p2 &&& (2147483647 : Int32)) % ((p0 &&& (7 : Int32)) + (1 : Int32)))), .val (.int (((p3.toUInt32 >>> ((1 : Int32) &&& 31).toUInt32).toInt32) &&& (255 : Int32))), .val (.int (0 : Int32)), .val (.ref b3), .val .null, .val (.ref b92_168), .val (.int (1 : Int32)), .val (.ref b92_168), .val (.ref b304_338)]) rfl ?_
        show Steps p.tables e below (T338.setTop (mkF m 263 #[.val (.int p0), .val (.int p1), .val (.int p2), .val (.int p3), .val (.int ((p0 &&& (7 : Int32)) + (1 : Int32))), .val (.int ((p1 &&& (2147483647 : Int32)) % ((p0 &&& (7 : Int32)) + (1 : Int32)))), .val (.int ((p2 &&& (2147483647 : Int32)) % ((p0 &&& (7 : Int32)) + (1 : Int32)))), .val (.int (((p3.toUInt32 >>> ((1 : Int32) &&& 31).toUInt32).toInt32) &&& (255 : Int32))), .val (.int (0 : Int32)), .val (.ref b3), .val .null, .val (.ref b92_168), .val (.int (1 : Int32)), .val (.ref b92_168), .val (.ref b304_338)] [])) _
        refine XS.iload X338.here hx rfl (hb hby at_263) rfl ?_
        show Steps p.tables e below (T338.setTop (mkF m 265 #[.val (.int p0), .val (.int p1), .val (.int p2), .val (.int p3), .val (.int ((p0 &&& (7 : Int32)) + (1 : Int32))), .val (.int ((p1 &&& (2147483647 : Int32)) % ((p0 &&& (7 : Int32)) + (1 : Int32)))), .val (.int ((p2 &&& (2147483647 : Int32)) % ((p0 &&& (7 : Int32)) + (1 : Int32)))), .val (.int (((p3.toUInt32 >>> ((1 : Int32) &&& 31).toUInt32).toInt32) &&& (255 : Int32))), .val (.int (0 : Int32)), .val (.ref b3), .val .null, .val (.ref b92_168), .val (.int (1 : Int32)), .val (.ref b92_168), .val (.ref b304_338)] [(.int (1 : Int32))])) _
        refine XS.ifNo X338.here hx rfl (hb hby at_265) rfl ((if0 _ _).trans (feq (by decide : ¬ ((1 : Int32) = (0 : Int32)))).1) ?_
        show Steps p.tables e below (T338.setTop (mkF m 268 #[.val (.int p0), .val (.int p1), .val (.int p2), .val (.int p3), .val (.int ((p0 &&& (7 : Int32)) + (1 : Int32))), .val (.int ((p1 &&& (2147483647 : Int32)) % ((p0 &&& (7 : Int32)) + (1 : Int32)))), .val (.int ((p2 &&& (2147483647 : Int32)) % ((p0 &&& (7 : Int32)) + (1 : Int32)))), .val (.int (((p3.toUInt32 >>> ((1 : Int32) &&& 31).toUInt32).toInt32) &&& (255 : Int32))), .val (.int (0 : Int32)), .val (.ref b3), .val .null, .val (.ref b92_168), .val (.int (1 : Int32)), .val (.ref b92_168), .val (.ref b304_338)] [])) _
        refine XS.aload X338.here hx rfl (hb hby at_268) rfl rfl ?_
        show Steps p.tables e below (T338.setTop (mkF m 270 #[.val (.int p0), .val (.int p1), .val (.int p2), .val (.int p3), .val (.int ((p0 &&& (7 : Int32)) + (1 : Int32))), .val (.int ((p1 &&& (2147483647 : Int32)) % ((p0 &&& (7 : Int32)) + (1 : Int32)))), .val (.int ((p2 &&& (2147483647 : Int32)) % ((p0 &&& (7 : Int32)) + (1 : Int32)))), .val (.int (((p3.toUInt32 >>> ((1 : Int32) &&& 31).toUInt32).toInt32) &&& (255 : Int32))), .val (.int (0 : Int32)), .val (.ref b3), .val .null, .val (.ref b92_168), .val (.int (1 : Int32)), .val (.ref b92_168), .val (.ref b304_338)] [(.ref b304_338)])) _
        refine XS.ifnullNo X338.here hx rfl (hb hby at_270) rfl ?_
        show Steps p.tables e below (T338.setTop (mkF m 273 #[.val (.int p0), .val (.int p1), .val (.int p2), .val (.int p3), .val (.int ((p0 &&& (7 : Int32)) + (1 : Int32))), .val (.int ((p1 &&& (2147483647 : Int32)) % ((p0 &&& (7 : Int32)) + (1 : Int32)))), .val (.int ((p2 &&& (2147483647 : Int32)) % ((p0 &&& (7 : Int32)) + (1 : Int32)))), .val (.int (((p3.toUInt32 >>> ((1 : Int32) &&& 31).toUInt32).toInt32) &&& (255 : Int32))), .val (.int (0 : Int32)), .val (.ref b3), .val .null, .val (.ref b92_168), .val (.int (1 : Int32)), .val (.ref b92_168), .val (.ref b304_338)] [])) _
        refine XS.aload X338.here hx rfl (hb hby at_273) rfl rfl ?_
        show Steps p.tables e below (T338.setTop (mkF m 275 #[.val (.int p0), .val (.int p1), .val (.int p2), .val (.int p3), .val (.int ((p0 &&& (7 : Int32)) + (1 : Int32))), .val (.int ((p1 &&& (2147483647 : Int32)) % ((p0 &&& (7 : Int32)) + (1 : Int32)))), .val (.int ((p2 &&& (2147483647 : Int32)) % ((p0 &&& (7 : Int32)) + (1 : Int32)))), .val (.int (((p3.toUInt32 >>> ((1 : Int32) &&& 31).toUInt32).toInt32) &&& (255 : Int32))), .val (.int (0 : Int32)), .val (.ref b3), .val .null, .val (.ref b92_168), .val (.int (1 : Int32)), .val (.ref b92_168), .val (.ref b304_338)] [(.ref b3)])) _
        refine st344 _ ?_
        show Steps p.tables e below (T344.setTop (mkF m 278 #[.val (.int p0), .val (.int p1), .val (.int p2), .val (.int p3), .val (.int ((p0 &&& (7 : Int32)) + (1 : Int32))), .val (.int ((p1 &&& (2147483647 : Int32)) % ((p0 &&& (7 : Int32)) + (1 : Int32)))), .val (.int ((p2 &&& (2147483647 : Int32)) % ((p0 &&& (7 : Int32)) + (1 : Int32)))), .val (.int (((p3.toUInt32 >>> ((1 : Int32) &&& 31).toUInt32).toInt32) &&& (255 : Int32))), .val (.int (0 : Int32)), .val (.ref b3), .val .null, .val (.ref b92_168), .val (.int (1 : Int32)), .val (.ref b92_168), .val (.ref b304_338)] [(.ref b68_84)])) _
        refine XS.iload X344.here hx rfl (hb hby at_278) rfl ?_
        show Steps p.tables e below (T344.setTop (mkF m 280 #[.val (.int p0), .val (.int p1), .val (.int p2), .val (.int p3), .val (.int ((p0 &&& (7 : Int32)) + (1 : Int32))), .val (.int ((p1 &&& (2147483647 : Int32)) % ((p0 &&& (7 : Int32)) + (1 : Int32)))), .val (.int ((p2 &&& (2147483647 : Int32)) % ((p0 &&& (7 : Int32)) + (1 : Int32)))), .val (.int (((p3.toUInt32 >>> ((1 : Int32) &&& 31).toUInt32).toInt32) &&& (255 : Int32))), .val (.int (0 : Int32)), .val (.ref b3), .val .null, .val (.ref b92_168), .val (.int (1 : Int32)), .val (.ref b92_168), .val (.ref b304_338)] [(.int ((p2 &&& (2147483647 : Int32)) % ((p0 &&& (7 : Int32)) + (1 : Int32)))), (.ref b68_84)])) _
        refine X344.aaload hx (j := ((p2 &&& (2147483647 : Int32)) % ((p0 &&& (7 : Int32)) + (1 : Int32)))) (v := (.ref b304_338)) (by rw [e344]; exact Ar345.1) (State.isArrayOf_alike hZ.alike Ar345.2.1) rfl Ar345.2.2 hin345 hat345 (g := (mkF m 280 #[.val (.int p0), .val (.int p1), .val (.int p2), .val (.int p3), .val (.int ((p0 &&& (7 : Int32)) + (1 : Int32))), .val (.int ((p1 &&& (2147483647 : Int32)) % ((p0 &&& (7 : Int32)) + (1 : Int32)))), .val (.int ((p2 &&& (2147483647 : Int32)) % ((p0 &&& (7 : Int32)) + (1 : Int32)))), .val (.int (((p3.toUInt32 >>> ((1 : Int32) &&& 31).toUInt32).toInt32) &&& (255 : Int32))), .val (.int (0 : Int32)), .val (.ref b3), .val .null, .val (.ref b92_168), .val (.int (1 : Int32)), .val (.ref b92_168), .val (.ref b304_338)] [(.int ((p2 &&& (2147483647 : Int32)) % ((p0 &&& (7 : Int32)) + (1 : Int32)))), (.ref b68_84)])) rfl rfl (hb hby at_280) _ ?_
        show Steps p.tables e below (T344.setTop (mkF m 281 #[.val (.int p0), .val (.int p1), .val (.int p2), .val (.int p3), .val (.int ((p0 &&& (7 : Int32)) + (1 : Int32))), .val (.int ((p1 &&& (2147483647 : Int32)) % ((p0 &&& (7 : Int32)) + (1 : Int32)))), .val (.int ((p2 &&& (2147483647 : Int32)) % ((p0 &&& (7 : Int32)) + (1 : Int32)))), .val (.int (((p3.toUInt32 >>> ((1 : Int32) &&& 31).toUInt32).toInt32) &&& (255 : Int32))), .val (.int (0 : Int32)), .val (.ref b3), .val .null, .val (.ref b92_168), .val (.int (1 : Int32)), .val (.ref b92_168), .val (.ref b304_338)] [(.ref b304_338)])) _
        refine XS.aload X344.here hx rfl (hb hby at_281) rfl rfl ?_
        show Steps p.tables e below (T344.setTop (mkF m 283 #[.val (.int p0), .val (.int p1), .val (.int p2), .val (.int p3), .val (.int ((p0 &&& (7 : Int32)) + (1 : Int32))), .val (.int ((p1 &&& (2147483647 : Int32)) % ((p0 &&& (7 : Int32)) + (1 : Int32)))), .val (.int ((p2 &&& (2147483647 : Int32)) % ((p0 &&& (7 : Int32)) + (1 : Int32)))), .val (.int (((p3.toUInt32 >>> ((1 : Int32) &&& 31).toUInt32).toInt32) &&& (255 : Int32))), .val (.int (0 : Int32)), .val (.ref b3), .val .null, .val (.ref b92_168), .val (.int (1 : Int32)), .val (.ref b92_168), .val (.ref b304_338)] [(.ref b304_338), (.ref b304_338)])) _
        refine Jvm.RoadKit.acmp (g := (mkF m 283 #[.val (.int p0), .val (.int p1), .val (.int p2), .val (.int p3), .val (.int ((p0 &&& (7 : Int32)) + (1 : Int32))), .val (.int ((p1 &&& (2147483647 : Int32)) % ((p0 &&& (7 : Int32)) + (1 : Int32)))), .val (.int ((p2 &&& (2147483647 : Int32)) % ((p0 &&& (7 : Int32)) + (1 : Int32)))), .val (.int (((p3.toUInt32 >>> ((1 : Int32) &&& 31).toUInt32).toInt32) &&& (255 : Int32))), .val (.int (0 : Int32)), .val (.ref b3), .val .null, .val (.ref b92_168), .val (.int (1 : Int32)), .val (.ref b92_168), .val (.ref b304_338)] [(.ref b304_338), (.ref b304_338)])) X344 hx rfl rfl rfl (pc0 := 283) (pc' := 286) (same := true) rfl (hb hby at_283) rfl (decide_eq_true (congrArg Value.ref rfl)) (by decide) (by decide) ?_
        show Steps p.tables e below (T344.setTop (mkF m 286 #[.val (.int p0), .val (.int p1), .val (.int p2), .val (.int p3), .val (.int ((p0 &&& (7 : Int32)) + (1 : Int32))), .val (.int ((p1 &&& (2147483647 : Int32)) % ((p0 &&& (7 : Int32)) + (1 : Int32)))), .val (.int ((p2 &&& (2147483647 : Int32)) % ((p0 &&& (7 : Int32)) + (1 : Int32)))), .val (.int (((p3.toUInt32 >>> ((1 : Int32) &&& 31).toUInt32).toInt32) &&& (255 : Int32))), .val (.int (0 : Int32)), .val (.ref b3), .val .null, .val (.ref b92_168), .val (.int (1 : Int32)), .val (.ref b92_168), .val (.ref b304_338)] [])) _
        refine XS.iload X344.here hx rfl (hb hby at_286) rfl ?_
        show Steps p.tables e below (T344.setTop (mkF m 288 #[.val (.int p0), .val (.int p1), .val (.int p2), .val (.int p3), .val (.int ((p0 &&& (7 : Int32)) + (1 : Int32))), .val (.int ((p1 &&& (2147483647 : Int32)) % ((p0 &&& (7 : Int32)) + (1 : Int32)))), .val (.int ((p2 &&& (2147483647 : Int32)) % ((p0 &&& (7 : Int32)) + (1 : Int32)))), .val (.int (((p3.toUInt32 >>> ((1 : Int32) &&& 31).toUInt32).toInt32) &&& (255 : Int32))), .val (.int (0 : Int32)), .val (.ref b3), .val .null, .val (.ref b92_168), .val (.int (1 : Int32)), .val (.ref b92_168), .val (.ref b304_338)] [(.int ((p2 &&& (2147483647 : Int32)) % ((p0 &&& (7 : Int32)) + (1 : Int32))))])) _
        refine XS.iload X344.here hx rfl (hb hby at_288) rfl ?_
        show Steps p.tables e below (T344.setTop (mkF m 290 #[.val (.int p0), .val (.int p1), .val (.int p2), .val (.int p3), .val (.int ((p0 &&& (7 : Int32)) + (1 : Int32))), .val (.int ((p1 &&& (2147483647 : Int32)) % ((p0 &&& (7 : Int32)) + (1 : Int32)))), .val (.int ((p2 &&& (2147483647 : Int32)) % ((p0 &&& (7 : Int32)) + (1 : Int32)))), .val (.int (((p3.toUInt32 >>> ((1 : Int32) &&& 31).toUInt32).toInt32) &&& (255 : Int32))), .val (.int (0 : Int32)), .val (.ref b3), .val .null, .val (.ref b92_168), .val (.int (1 : Int32)), .val (.ref b92_168), .val (.ref b304_338)] [(.int ((p1 &&& (2147483647 : Int32)) % ((p0 &&& (7 : Int32)) + (1 : Int32)))), (.int ((p2 &&& (2147483647 : Int32)) % ((p0 &&& (7 : Int32)) + (1 : Int32))))])) _
        refine XS.icmpYes X344.here hx rfl (pc0 := 290) (pc' := 297) rfl (hb hby at_290) rfl (feq hc190).2 (by decide) (by decide) ?_
        show Steps p.tables e below (T344.setTop (mkF m 297 #[.val (.int p0), .val (.int p1), .val (.int p2), .val (.int p3), .val (.int ((p0 &&& (7 : Int32)) + (1 : Int32))), .val (.int ((p1 &&& (2147483647 : Int32)) % ((p0 &&& (7 : Int32)) + (1 : Int32)))), .val (.int ((p2 &&& (2147483647 : Int32)) % ((p0 &&& (7 : Int32)) + (1 : Int32)))), .val (.int (((p3.toUInt32 >>> ((1 : Int32) &&& 31).toUInt32).toInt32) &&& (255 : Int32))), .val (.int (0 : Int32)), .val (.ref b3), .val .null, .val (.ref b92_168), .val (.int (1 : Int32)), .val (.ref b92_168), .val (.ref b304_338)] [])) _
        refine XS.iconst X344.here hx rfl (hb hby at_297) ?_
        show Steps p.tables e below (T344.setTop (mkF m 298 #[.val (.int p0), .val (.int p1), .val (.int p2), .val (.int p3), .val (.int ((p0 &&& (7 : Int32)) + (1 : Int32))), .val (.int ((p1 &&& (2147483647 : Int32)) % ((p0 &&& (7 : Int32)) + (1 : Int32)))), .val (.int ((p2 &&& (2147483647 : Int32)) % ((p0 &&& (7 : Int32)) + (1 : Int32)))), .val (.int (((p3.toUInt32 >>> ((1 : Int32) &&& 31).toUInt32).toInt32) &&& (255 : Int32))), .val (.int (0 : Int32)), .val (.ref b3), .val .null, .val (.ref b92_168), .val (.int (1 : Int32)), .val (.ref b92_168), .val (.ref b304_338)] [(.int (0 : Int32))])) _
        refine XS.aload X344.here hx rfl (hb hby at_298) rfl rfl ?_
        show Steps p.tables e below (T344.setTop (mkF m 300 #[.val (.int p0), .val (.int p1), .val (.int p2), .val (.int p3), .val (.int ((p0 &&& (7 : Int32)) + (1 : Int32))), .val (.int ((p1 &&& (2147483647 : Int32)) % ((p0 &&& (7 : Int32)) + (1 : Int32)))), .val (.int ((p2 &&& (2147483647 : Int32)) % ((p0 &&& (7 : Int32)) + (1 : Int32)))), .val (.int (((p3.toUInt32 >>> ((1 : Int32) &&& 31).toUInt32).toInt32) &&& (255 : Int32))), .val (.int (0 : Int32)), .val (.ref b3), .val .null, .val (.ref b92_168), .val (.int (1 : Int32)), .val (.ref b92_168), .val (.ref b304_338)] [(.ref b304_338), (.int (0 : Int32))])) _
        refine XS.aload X344.here hx rfl (hb hby at_300) rfl rfl ?_
        show Steps p.tables e below (T344.setTop (mkF m 302 #[.val (.int p0), .val (.int p1), .val (.int p2), .val (.int p3), .val (.int ((p0 &&& (7 : Int32)) + (1 : Int32))), .val (.int ((p1 &&& (2147483647 : Int32)) % ((p0 &&& (7 : Int32)) + (1 : Int32)))), .val (.int ((p2 &&& (2147483647 : Int32)) % ((p0 &&& (7 : Int32)) + (1 : Int32)))), .val (.int (((p3.toUInt32 >>> ((1 : Int32) &&& 31).toUInt32).toInt32) &&& (255 : Int32))), .val (.int (0 : Int32)), .val (.ref b3), .val .null, .val (.ref b92_168), .val (.int (1 : Int32)), .val (.ref b92_168), .val (.ref b304_338)] [(.ref b92_168), (.ref b304_338), (.int (0 : Int32))])) _
        refine Jvm.RoadKit.acmp (g := (mkF m 302 #[.val (.int p0), .val (.int p1), .val (.int p2), .val (.int p3), .val (.int ((p0 &&& (7 : Int32)) + (1 : Int32))), .val (.int ((p1 &&& (2147483647 : Int32)) % ((p0 &&& (7 : Int32)) + (1 : Int32)))), .val (.int ((p2 &&& (2147483647 : Int32)) % ((p0 &&& (7 : Int32)) + (1 : Int32)))), .val (.int (((p3.toUInt32 >>> ((1 : Int32) &&& 31).toUInt32).toInt32) &&& (255 : Int32))), .val (.int (0 : Int32)), .val (.ref b3), .val .null, .val (.ref b92_168), .val (.int (1 : Int32)), .val (.ref b92_168), .val (.ref b304_338)] [(.ref b92_168), (.ref b304_338), (.int (0 : Int32))])) X344 hx rfl rfl rfl (pc0 := 302) (pc' := 309) (same := false) rfl (hb hby at_302) rfl (decide_eq_false fun q => (Ne.symm ne_b92_168_b304_338) (Value.ref.inj q)) (by decide) (by decide) ?_
        show Steps p.tables e below (T344.setTop (mkF m 309 #[.val (.int p0), .val (.int p1), .val (.int p2), .val (.int p3), .val (.int ((p0 &&& (7 : Int32)) + (1 : Int32))), .val (.int ((p1 &&& (2147483647 : Int32)) % ((p0 &&& (7 : Int32)) + (1 : Int32)))), .val (.int ((p2 &&& (2147483647 : Int32)) % ((p0 &&& (7 : Int32)) + (1 : Int32)))), .val (.int (((p3.toUInt32 >>> ((1 : Int32) &&& 31).toUInt32).toInt32) &&& (255 : Int32))), .val (.int (0 : Int32)), .val (.ref b3), .val .null, .val (.ref b92_168), .val (.int (1 : Int32)), .val (.ref b92_168), .val (.ref b304_338)] [(.int (0 : Int32))])) _
        refine XS.iconst X344.here hx rfl (hb hby at_309) ?_
        show Steps p.tables e below (T344.setTop (mkF m 310 #[.val (.int p0), .val (.int p1), .val (.int p2), .val (.int p3), .val (.int ((p0 &&& (7 : Int32)) + (1 : Int32))), .val (.int ((p1 &&& (2147483647 : Int32)) % ((p0 &&& (7 : Int32)) + (1 : Int32)))), .val (.int ((p2 &&& (2147483647 : Int32)) % ((p0 &&& (7 : Int32)) + (1 : Int32)))), .val (.int (((p3.toUInt32 >>> ((1 : Int32) &&& 31).toUInt32).toInt32) &&& (255 : Int32))), .val (.int (0 : Int32)), .val (.ref b3), .val .null, .val (.ref b92_168), .val (.int (1 : Int32)), .val (.ref b92_168), .val (.ref b304_338)] [(.int (0 : Int32)), (.int (0 : Int32))])) _
        refine XS.icmpNo X344.here hx rfl (hb hby at_310) rfl (teq (by decide : ((0 : Int32) = (0 : Int32)))).2 ?_
        show Steps p.tables e below (T344.setTop (mkF m 313 #[.val (.int p0), .val (.int p1), .val (.int p2), .val (.int p3), .val (.int ((p0 &&& (7 : Int32)) + (1 : Int32))), .val (.int ((p1 &&& (2147483647 : Int32)) % ((p0 &&& (7 : Int32)) + (1 : Int32)))), .val (.int ((p2 &&& (2147483647 : Int32)) % ((p0 &&& (7 : Int32)) + (1 : Int32)))), .val (.int (((p3.toUInt32 >>> ((1 : Int32) &&& 31).toUInt32).toInt32) &&& (255 : Int32))), .val (.int (0 : Int32)), .val (.ref b3), .val .null, .val (.ref b92_168), .val (.int (1 : Int32)), .val (.ref b92_168), .val (.ref b304_338)] [])) _
        refine XS.iconst X344.here hx rfl (hb hby at_313) ?_
        show Steps p.tables e below (T344.setTop (mkF m 314 #[.val (.int p0), .val (.int p1), .val (.int p2), .val (.int p3), .val (.int ((p0 &&& (7 : Int32)) + (1 : Int32))), .val (.int ((p1 &&& (2147483647 : Int32)) % ((p0 &&& (7 : Int32)) + (1 : Int32)))), .val (.int ((p2 &&& (2147483647 : Int32)) % ((p0 &&& (7 : Int32)) + (1 : Int32)))), .val (.int (((p3.toUInt32 >>> ((1 : Int32) &&& 31).toUInt32).toInt32) &&& (255 : Int32))), .val (.int (0 : Int32)), .val (.ref b3), .val .null, .val (.ref b92_168), .val (.int (1 : Int32)), .val (.ref b92_168), .val (.ref b304_338)] [(.int (1 : Int32))])) _
        refine XS.goto X344.here hx rfl (pc0 := 314) (pc' := 318) rfl (hb hby at_314) (by decide) (by decide) ?_
        show Steps p.tables e below (T344.setTop (mkF m 318 #[.val (.int p0), .val (.int p1), .val (.int p2), .val (.int p3), .val (.int ((p0 &&& (7 : Int32)) + (1 : Int32))), .val (.int ((p1 &&& (2147483647 : Int32)) % ((p0 &&& (7 : Int32)) + (1 : Int32)))), .val (.int ((p2 &&& (2147483647 : Int32)) % ((p0 &&& (7 : Int32)) + (1 : Int32)))), .val (.int (((p3.toUInt32 >>> ((1 : Int32) &&& 31).toUInt32).toInt32) &&& (255 : Int32))), .val (.int (0 : Int32)), .val (.ref b3), .val .null, .val (.ref b92_168), .val (.int (1 : Int32)), .val (.ref b92_168), .val (.ref b304_338)] [(.int (1 : Int32))])) _
        refine XS.istore X344.here hx rfl (hb hby at_318) rfl (l' := #[.val (.int p0), .val (.int p1), .val (.int p2), .val (.int p3), .val (.int ((p0 &&& (7 : Int32)) + (1 : Int32))), .val (.int ((p1 &&& (2147483647 : Int32)) % ((p0 &&& (7 : Int32)) + (1 : Int32)))), .val (.int ((p2 &&& (2147483647 : Int32)) % ((p0 &&& (7 : Int32)) + (1 : Int32)))), .val (.int (((p3.toUInt32 >>> ((1 : Int32) &&& 31).toUInt32).toInt32) &&& (255 : Int32))), .val (.int (0 : Int32)), .val (.ref b3), .val .null, .val (.ref b92_168), .val (.int (1 : Int32)), .val (.ref b92_168), .val (.ref b304_338)]) rfl ?_
        show Steps p.tables e below (T344.setTop (mkF m 320 #[.val (.int p0), .val (.int p1), .val (.int p2), .val (.int p3), .val (.int ((p0 &&& (7 : Int32)) + (1 : Int32))), .val (.int ((p1 &&& (2147483647 : Int32)) % ((p0 &&& (7 : Int32)) + (1 : Int32)))), .val (.int ((p2 &&& (2147483647 : Int32)) % ((p0 &&& (7 : Int32)) + (1 : Int32)))), .val (.int (((p3.toUInt32 >>> ((1 : Int32) &&& 31).toUInt32).toInt32) &&& (255 : Int32))), .val (.int (0 : Int32)), .val (.ref b3), .val .null, .val (.ref b92_168), .val (.int (1 : Int32)), .val (.ref b92_168), .val (.ref b304_338)] [])) _
        refine XS.iload X344.here hx rfl (hb hby at_320) rfl ?_
        show Steps p.tables e below (T344.setTop (mkF m 322 #[.val (.int p0), .val (.int p1), .val (.int p2), .val (.int p3), .val (.int ((p0 &&& (7 : Int32)) + (1 : Int32))), .val (.int ((p1 &&& (2147483647 : Int32)) % ((p0 &&& (7 : Int32)) + (1 : Int32)))), .val (.int ((p2 &&& (2147483647 : Int32)) % ((p0 &&& (7 : Int32)) + (1 : Int32)))), .val (.int (((p3.toUInt32 >>> ((1 : Int32) &&& 31).toUInt32).toInt32) &&& (255 : Int32))), .val (.int (0 : Int32)), .val (.ref b3), .val .null, .val (.ref b92_168), .val (.int (1 : Int32)), .val (.ref b92_168), .val (.ref b304_338)] [(.int (1 : Int32))])) _
        refine XS.ifNo X344.here hx rfl (hb hby at_322) rfl ((if0 _ _).trans (feq (by decide : ¬ ((1 : Int32) = (0 : Int32)))).1) ?_
        show Steps p.tables e below (T344.setTop (mkF m 325 #[.val (.int p0), .val (.int p1), .val (.int p2), .val (.int p3), .val (.int ((p0 &&& (7 : Int32)) + (1 : Int32))), .val (.int ((p1 &&& (2147483647 : Int32)) % ((p0 &&& (7 : Int32)) + (1 : Int32)))), .val (.int ((p2 &&& (2147483647 : Int32)) % ((p0 &&& (7 : Int32)) + (1 : Int32)))), .val (.int (((p3.toUInt32 >>> ((1 : Int32) &&& 31).toUInt32).toInt32) &&& (255 : Int32))), .val (.int (0 : Int32)), .val (.ref b3), .val .null, .val (.ref b92_168), .val (.int (1 : Int32)), .val (.ref b92_168), .val (.ref b304_338)] [])) _
        refine XS.aload X344.here hx rfl (hb hby at_325) rfl rfl ?_
        show Steps p.tables e below (T344.setTop (mkF m 327 #[.val (.int p0), .val (.int p1), .val (.int p2), .val (.int p3), .val (.int ((p0 &&& (7 : Int32)) + (1 : Int32))), .val (.int ((p1 &&& (2147483647 : Int32)) % ((p0 &&& (7 : Int32)) + (1 : Int32)))), .val (.int ((p2 &&& (2147483647 : Int32)) % ((p0 &&& (7 : Int32)) + (1 : Int32)))), .val (.int (((p3.toUInt32 >>> ((1 : Int32) &&& 31).toUInt32).toInt32) &&& (255 : Int32))), .val (.int (0 : Int32)), .val (.ref b3), .val .null, .val (.ref b92_168), .val (.int (1 : Int32)), .val (.ref b92_168), .val (.ref b304_338)] [(.ref b3)])) _
        refine st346 _ ?_
        show Steps p.tables e below (T346.setTop (mkF m 330 #[.val (.int p0), .val (.int p1), .val (.int p2), .val (.int p3), .val (.int ((p0 &&& (7 : Int32)) + (1 : Int32))), .val (.int ((p1 &&& (2147483647 : Int32)) % ((p0 &&& (7 : Int32)) + (1 : Int32)))), .val (.int ((p2 &&& (2147483647 : Int32)) % ((p0 &&& (7 : Int32)) + (1 : Int32)))), .val (.int (((p3.toUInt32 >>> ((1 : Int32) &&& 31).toUInt32).toInt32) &&& (255 : Int32))), .val (.int (0 : Int32)), .val (.ref b3), .val .null, .val (.ref b92_168), .val (.int (1 : Int32)), .val (.ref b92_168), .val (.ref b304_338)] [(.ref b68_84)])) _
        refine XS.iload X346.here hx rfl (hb hby at_330) rfl ?_
        show Steps p.tables e below (T346.setTop (mkF m 332 #[.val (.int p0), .val (.int p1), .val (.int p2), .val (.int p3), .val (.int ((p0 &&& (7 : Int32)) + (1 : Int32))), .val (.int ((p1 &&& (2147483647 : Int32)) % ((p0 &&& (7 : Int32)) + (1 : Int32)))), .val (.int ((p2 &&& (2147483647 : Int32)) % ((p0 &&& (7 : Int32)) + (1 : Int32)))), .val (.int (((p3.toUInt32 >>> ((1 : Int32) &&& 31).toUInt32).toInt32) &&& (255 : Int32))), .val (.int (0 : Int32)), .val (.ref b3), .val .null, .val (.ref b92_168), .val (.int (1 : Int32)), .val (.ref b92_168), .val (.ref b304_338)] [(.int ((p1 &&& (2147483647 : Int32)) % ((p0 &&& (7 : Int32)) + (1 : Int32)))), (.ref b68_84)])) _
        refine X346.aaload hx (j := ((p1 &&& (2147483647 : Int32)) % ((p0 &&& (7 : Int32)) + (1 : Int32)))) (v := (.ref b92_168)) (by rw [e346]; exact Ar347.1) (State.isArrayOf_alike hZ.alike Ar347.2.1) rfl Ar347.2.2 hin347 hat347 (g := (mkF m 332 #[.val (.int p0), .val (.int p1), .val (.int p2), .val (.int p3), .val (.int ((p0 &&& (7 : Int32)) + (1 : Int32))), .val (.int ((p1 &&& (2147483647 : Int32)) % ((p0 &&& (7 : Int32)) + (1 : Int32)))), .val (.int ((p2 &&& (2147483647 : Int32)) % ((p0 &&& (7 : Int32)) + (1 : Int32)))), .val (.int (((p3.toUInt32 >>> ((1 : Int32) &&& 31).toUInt32).toInt32) &&& (255 : Int32))), .val (.int (0 : Int32)), .val (.ref b3), .val .null, .val (.ref b92_168), .val (.int (1 : Int32)), .val (.ref b92_168), .val (.ref b304_338)] [(.int ((p1 &&& (2147483647 : Int32)) % ((p0 &&& (7 : Int32)) + (1 : Int32)))), (.ref b68_84)])) rfl rfl (hb hby at_332) _ ?_
        show Steps p.tables e below (T346.setTop (mkF m 333 #[.val (.int p0), .val (.int p1), .val (.int p2), .val (.int p3), .val (.int ((p0 &&& (7 : Int32)) + (1 : Int32))), .val (.int ((p1 &&& (2147483647 : Int32)) % ((p0 &&& (7 : Int32)) + (1 : Int32)))), .val (.int ((p2 &&& (2147483647 : Int32)) % ((p0 &&& (7 : Int32)) + (1 : Int32)))), .val (.int (((p3.toUInt32 >>> ((1 : Int32) &&& 31).toUInt32).toInt32) &&& (255 : Int32))), .val (.int (0 : Int32)), .val (.ref b3), .val .null, .val (.ref b92_168), .val (.int (1 : Int32)), .val (.ref b92_168), .val (.ref b304_338)] [(.ref b92_168)])) _
        refine XS.aload X346.here hx rfl (hb hby at_333) rfl rfl ?_
        show Steps p.tables e below (T346.setTop (mkF m 335 #[.val (.int p0), .val (.int p1), .val (.int p2), .val (.int p3), .val (.int ((p0 &&& (7 : Int32)) + (1 : Int32))), .val (.int ((p1 &&& (2147483647 : Int32)) % ((p0 &&& (7 : Int32)) + (1 : Int32)))), .val (.int ((p2 &&& (2147483647 : Int32)) % ((p0 &&& (7 : Int32)) + (1 : Int32)))), .val (.int (((p3.toUInt32 >>> ((1 : Int32) &&& 31).toUInt32).toInt32) &&& (255 : Int32))), .val (.int (0 : Int32)), .val (.ref b3), .val .null, .val (.ref b92_168), .val (.int (1 : Int32)), .val (.ref b92_168), .val (.ref b304_338)] [(.ref b92_168), (.ref b92_168)])) _
        refine Jvm.RoadKit.acmp (g := (mkF m 335 #[.val (.int p0), .val (.int p1), .val (.int p2), .val (.int p3), .val (.int ((p0 &&& (7 : Int32)) + (1 : Int32))), .val (.int ((p1 &&& (2147483647 : Int32)) % ((p0 &&& (7 : Int32)) + (1 : Int32)))), .val (.int ((p2 &&& (2147483647 : Int32)) % ((p0 &&& (7 : Int32)) + (1 : Int32)))), .val (.int (((p3.toUInt32 >>> ((1 : Int32) &&& 31).toUInt32).toInt32) &&& (255 : Int32))), .val (.int (0 : Int32)), .val (.ref b3), .val .null, .val (.ref b92_168), .val (.int (1 : Int32)), .val (.ref b92_168), .val (.ref b304_338)] [(.ref b92_168), (.ref b92_168)])) X346 hx rfl rfl rfl (pc0 := 335) (pc' := 338) (same := true) rfl (hb hby at_335) rfl (decide_eq_true (congrArg Value.ref rfl)) (by decide) (by decide) ?_
        show Steps p.tables e below (T346.setTop (mkF m 338 #[.val (.int p0), .val (.int p1), .val (.int p2), .val (.int p3), .val (.int ((p0 &&& (7 : Int32)) + (1 : Int32))), .val (.int ((p1 &&& (2147483647 : Int32)) % ((p0 &&& (7 : Int32)) + (1 : Int32)))), .val (.int ((p2 &&& (2147483647 : Int32)) % ((p0 &&& (7 : Int32)) + (1 : Int32)))), .val (.int (((p3.toUInt32 >>> ((1 : Int32) &&& 31).toUInt32).toInt32) &&& (255 : Int32))), .val (.int (0 : Int32)), .val (.ref b3), .val .null, .val (.ref b92_168), .val (.int (1 : Int32)), .val (.ref b92_168), .val (.ref b304_338)] [])) _
        refine XS.iconst X346.here hx rfl (hb hby at_338) ?_
        show Steps p.tables e below (T346.setTop (mkF m 339 #[.val (.int p0), .val (.int p1), .val (.int p2), .val (.int p3), .val (.int ((p0 &&& (7 : Int32)) + (1 : Int32))), .val (.int ((p1 &&& (2147483647 : Int32)) % ((p0 &&& (7 : Int32)) + (1 : Int32)))), .val (.int ((p2 &&& (2147483647 : Int32)) % ((p0 &&& (7 : Int32)) + (1 : Int32)))), .val (.int (((p3.toUInt32 >>> ((1 : Int32) &&& 31).toUInt32).toInt32) &&& (255 : Int32))), .val (.int (0 : Int32)), .val (.ref b3), .val .null, .val (.ref b92_168), .val (.int (1 : Int32)), .val (.ref b92_168), .val (.ref b304_338)] [(.int (1 : Int32))])) _
        refine XS.goto X346.here hx rfl (pc0 := 339) (pc' := 343) rfl (hb hby at_339) (by decide) (by decide) ?_
        show Steps p.tables e below (T346.setTop (mkF m 343 #[.val (.int p0), .val (.int p1), .val (.int p2), .val (.int p3), .val (.int ((p0 &&& (7 : Int32)) + (1 : Int32))), .val (.int ((p1 &&& (2147483647 : Int32)) % ((p0 &&& (7 : Int32)) + (1 : Int32)))), .val (.int ((p2 &&& (2147483647 : Int32)) % ((p0 &&& (7 : Int32)) + (1 : Int32)))), .val (.int (((p3.toUInt32 >>> ((1 : Int32) &&& 31).toUInt32).toInt32) &&& (255 : Int32))), .val (.int (0 : Int32)), .val (.ref b3), .val .null, .val (.ref b92_168), .val (.int (1 : Int32)), .val (.ref b92_168), .val (.ref b304_338)] [(.int (1 : Int32))])) _
        refine XS.istore X346.here hx rfl (hb hby at_343) rfl (l' := #[.val (.int p0), .val (.int p1), .val (.int p2), .val (.int p3), .val (.int ((p0 &&& (7 : Int32)) + (1 : Int32))), .val (.int ((p1 &&& (2147483647 : Int32)) % ((p0 &&& (7 : Int32)) + (1 : Int32)))), .val (.int ((p2 &&& (2147483647 : Int32)) % ((p0 &&& (7 : Int32)) + (1 : Int32)))), .val (.int (((p3.toUInt32 >>> ((1 : Int32) &&& 31).toUInt32).toInt32) &&& (255 : Int32))), .val (.int (0 : Int32)), .val (.ref b3), .val .null, .val (.ref b92_168), .val (.int (1 : Int32)), .val (.ref b92_168), .val (.ref b304_338)]) rfl ?_
        show Steps p.tables e below (T346.setTop (mkF m 345 #[.val (.int p0), .val (.int p1), .val (.int p2), .val (.int p3), .val (.int ((p0 &&& (7 : Int32)) + (1 : Int32))), .val (.int ((p1 &&& (2147483647 : Int32)) % ((p0 &&& (7 : Int32)) + (1 : Int32)))), .val (.int ((p2 &&& (2147483647 : Int32)) % ((p0 &&& (7 : Int32)) + (1 : Int32)))), .val (.int (((p3.toUInt32 >>> ((1 : Int32) &&& 31).toUInt32).toInt32) &&& (255 : Int32))), .val (.int (0 : Int32)), .val (.ref b3), .val .null, .val (.ref b92_168), .val (.int (1 : Int32)), .val (.ref b92_168), .val (.ref b304_338)] [])) _
        refine XS.iload X346.here hx rfl (hb hby at_345) rfl ?_
        show Steps p.tables e below (T346.setTop (mkF m 347 #[.val (.int p0), .val (.int p1), .val (.int p2), .val (.int p3), .val (.int ((p0 &&& (7 : Int32)) + (1 : Int32))), .val (.int ((p1 &&& (2147483647 : Int32)) % ((p0 &&& (7 : Int32)) + (1 : Int32)))), .val (.int ((p2 &&& (2147483647 : Int32)) % ((p0 &&& (7 : Int32)) + (1 : Int32)))), .val (.int (((p3.toUInt32 >>> ((1 : Int32) &&& 31).toUInt32).toInt32) &&& (255 : Int32))), .val (.int (0 : Int32)), .val (.ref b3), .val .null, .val (.ref b92_168), .val (.int (1 : Int32)), .val (.ref b92_168), .val (.ref b304_338)] [(.int (1 : Int32))])) _
        exact retN X346 hx (t := .boolean) Bd.returns (by simp) (hb hby at_347) hr
      · show Q0 Z p0 p1 p2 p3 h0 n0 _ T346.heap _
        rw [e346]
        exact ⟨by unfold sp0; rw [if_pos hc2, if_neg hc190], N338, trivial⟩
  · obtain ⟨T348, h348, X348, e348, E348, A348, D348, -, st348⟩ := newO X0 hx hZ hown (hw _ (tk 1 rfl)) (hw _ (tk 2 rfl)) (hw _ (tk 3 rfl)) e0 (g := (mkF m 48 #[.val (.int p0), .val (.int p1), .val (.int p2), .val (.int p3), .val (.int ((p0 &&& (7 : Int32)) + (1 : Int32))), .val (.int ((p1 &&& (2147483647 : Int32)) % ((p0 &&& (7 : Int32)) + (1 : Int32)))), .val (.int ((p2 &&& (2147483647 : Int32)) % ((p0 &&& (7 : Int32)) + (1 : Int32)))), .val (.int (((p3.toUInt32 >>> ((1 : Int32) &&& 31).toUInt32).toInt32) &&& (255 : Int32))), .val (.int (1 : Int32)), .unset, .unset, .unset, .unset, .unset, .unset] [])) rfl (hb hby at_48) (by decide) (by decide)
    obtain ⟨b348, g348⟩ : ∃ z, z = h0.size := ⟨_, rfl⟩
    rw [← g348] at A348 D348 st348
    have g_b348 : n0 ≤ b348 := Nat.le_trans (own_old O0) (Nat.le_of_eq g348.symm)
    have O348 : Old Z n0 h348 := O0.ext E348
    have F_matchingLines_b348 : Fld Z h348 b348 "com/example/vetd/vetd/Policy$ActionRules" "matchingLines" "Ljava/util/Map;" .null := D348 (Or.inr (hw _ (tk 27 rfl))) (ty := (.object "java/util/Map")) (by decide)
    have F_jointLines_b348 : Fld Z h348 b348 "com/example/vetd/vetd/Policy$ActionRules" "jointLines" "Lcom/example/vetd/vetd/JointLines;" .null := D348 (Or.inr (hw _ (tk 40 rfl))) (ty := (.object "com/example/vetd/vetd/JointLines")) (by decide)
    have F_exceptions_b348 : Fld Z h348 b348 "com/example/vetd/vetd/Policy$ActionRules" "exceptions" "Ljava/util/Map;" .null := D348 (Or.inr (hw _ (tk 42 rfl))) (ty := (.object "java/util/Map")) (by decide)
    have F_lines_b348 : Fld Z h348 b348 "com/example/vetd/vetd/Policy$ActionRules" "lines" "[Lcom/example/vetd/vetd/Policy$Lines;" .null := D348 (Or.inr (hw _ (tk 46 rfl))) (ty := (.array (.object "com/example/vetd/vetd/Policy$Lines"))) (by decide)
    obtain ⟨_, _, ⟨T373, L373, k373, n373⟩, -, X373, ⟨Lc373, hQ373, l373, y373, z373⟩, st373⟩ := X348.specialBack hx (y := Y3) rfl hown (mvT hZ (hw _ (tk 4 rfl))) (mvT hZ (hw _ (tk 5 rfl))) (mvT hZ (hw _ (tk 6 rfl))) (by decide) (backOf (W := 1) (rm1x1 l Z a0 hw [] hS0 b348 ((p0 &&& (7 : Int32)) + (1 : Int32)) h348 n0 O348 g_b348 A348 F_exceptions_b348 F_jointLines_b348 F_lines_b348 F_matchingLines_b348 fk1 (own_ncap p0)) hZ (hw _ (tk 6 rfl)) (hw _ (tk 3 rfl)) (by decide) (by decide)) (g := (mkF m 54 #[.val (.int p0), .val (.int p1), .val (.int p2), .val (.int p3), .val (.int ((p0 &&& (7 : Int32)) + (1 : Int32))), .val (.int ((p1 &&& (2147483647 : Int32)) % ((p0 &&& (7 : Int32)) + (1 : Int32)))), .val (.int ((p2 &&& (2147483647 : Int32)) % ((p0 &&& (7 : Int32)) + (1 : Int32)))), .val (.int (((p3.toUInt32 >>> ((1 : Int32) &&& 31).toUInt32).toInt32) &&& (255 : Int32))), .val (.int (1 : Int32)), .unset, .unset, .unset, .unset, .unset, .unset] [(.int ((p0 &&& (7 : Int32)) + (1 : Int32))), (.ref b348), (.ref b348)])) rfl (by rw [hml]; rfl) (Steps.refl _) (a := b348) (argsL := [(.int ((p0 &&& (7 : Int32)) + (1 : Int32)))]) (rest := [(.ref b348)]) (lenOf pd_1 rfl) rfl (by show 2 * 0 + _ ≤ _; exact Nat.le_of_eq rfl) (hb hby at_54) (fun _ _ => ⟨rfl, e348, (by decide : 1 + 5 ≤ _), (by decide : 4 + 33 ≤ _)⟩)
    dsimp only [Pt.U, Pt.locs, Pt.cells, Pt.slots] at X373 l373 y373 z373 st373 hQ373
    subst l373 y373 z373
    obtain ⟨b40_373, b68_373, k68_373, b47_373, b17_48_373, b58_373, rv373, N373q, O373, K373c, Fe373_0, Fe373_1, Fe373_2, Fe373_3, Fx373_0, Fx373_1, Fx373_2, Fx373_3, Fx373_4, Fx373_5, Fx373_6, Fx373_7, Fx373_8, Fx373_9, Fx373_10, Fx373_11, Fx373_12, Fx373_13, Fx373_14, Fx373_15, Fx373_16, Fx373_17, Fx373_18, Fx373_19, Fx373_20, Fx373_21, Fx373_22, Fx373_23, Fx373_24, Fx373_25, Fx373_26, Fx373_27, Fx373_28, Fx373_29⟩ := hQ373
    subst rv373
    have N373 := Fr.app N0 N373q
    have g_b40_373 := Fx373_0
    have ne_b348_b40_373 : b348 ≠ b40_373 := Nat.ne_of_lt (Nat.lt_of_lt_of_le A348.lt Fx373_1)
    have g_b68_373 := Fx373_4
    have ne_b348_b68_373 : b348 ≠ b68_373 := Nat.ne_of_lt (Nat.lt_of_lt_of_le A348.lt Fx373_5)
    have g_b47_373 := Fx373_8
    have ne_b348_b47_373 : b348 ≠ b47_373 := Nat.ne_of_lt (Nat.lt_of_lt_of_le A348.lt Fx373_9)
    have g_b17_48_373 := Fx373_12
    have ne_b348_b17_48_373 : b348 ≠ b17_48_373 := Nat.ne_of_lt (Nat.lt_of_lt_of_le A348.lt Fx373_13)
    have g_b58_373 := Fx373_16
    have ne_b348_b58_373 : b348 ≠ b58_373 := Nat.ne_of_lt (Nat.lt_of_lt_of_le A348.lt Fx373_17)
    have c374 := (A348.keep K373c)
    obtain ⟨T375, h375, X375, e375, E375, A375, D375, -, st375⟩ := newO X373 hx hZ hown (hw _ (tk 47 rfl)) (hw _ (tk 48 rfl)) (hw _ (tk 49 rfl)) rfl (g := (mkF m 67 #[.val (.int p0), .val (.int p1), .val (.int p2), .val (.int p3), .val (.int ((p0 &&& (7 : Int32)) + (1 : Int32))), .val (.int ((p1 &&& (2147483647 : Int32)) % ((p0 &&& (7 : Int32)) + (1 : Int32)))), .val (.int ((p2 &&& (2147483647 : Int32)) % ((p0 &&& (7 : Int32)) + (1 : Int32)))), .val (.int (((p3.toUInt32 >>> ((1 : Int32) &&& 31).toUInt32).toInt32) &&& (255 : Int32))), .val (.int (1 : Int32)), .val (.ref b348), .val .null, .unset, .unset, .unset, .unset] [])) rfl (hb hby at_67) (by decide) (by decide)
    obtain ⟨b375, g375⟩ : ∃ z, z = T373.heap.size := ⟨_, rfl⟩
    rw [← g375] at A375 D375 st375
    have g_b375 : n0 ≤ b375 := Nat.le_trans (own_old O373) (Nat.le_of_eq g375.symm)
    have ne_b348_b375 : b348 ≠ b375 := Nat.ne_of_lt (Nat.lt_of_lt_of_le c374.lt (Nat.le_of_eq g375.symm))
    have ne_b40_373_b375 : b40_373 ≠ b375 := Nat.ne_of_lt (Nat.lt_of_lt_of_le Fx373_2.lt (Nat.le_of_eq g375.symm))
    have ne_b68_373_b375 : b68_373 ≠ b375 := Nat.ne_of_lt (Nat.lt_of_lt_of_le Fx373_6.lt (Nat.le_of_eq g375.symm))
    have ne_b47_373_b375 : b47_373 ≠ b375 := Nat.ne_of_lt (Nat.lt_of_lt_of_le Fx373_10.lt (Nat.le_of_eq g375.symm))
    have ne_b17_48_373_b375 : b17_48_373 ≠ b375 := Nat.ne_of_lt (Nat.lt_of_lt_of_le Fx373_14.lt (Nat.le_of_eq g375.symm))
    have ne_b58_373_b375 : b58_373 ≠ b375 := Nat.ne_of_lt (Nat.lt_of_lt_of_le Fx373_18.lt (Nat.le_of_eq g375.symm))
    have O375 : Old Z n0 h375 := O373.ext E375
    have F_permitted_b375 : Fld Z h375 b375 "com/example/vetd/vetd/Policy$Lines" "permitted" "Ljava/util/BitSet;" .null := D375 (Or.inr (hw _ (tk 77 rfl))) (ty := (.object "java/util/BitSet")) (by decide)
    have F_denied_b375 : Fld Z h375 b375 "com/example/vetd/vetd/Policy$Lines" "denied" "Ljava/util/BitSet;" .null := D375 (Or.inr (hw _ (tk 79 rfl))) (ty := (.object "java/util/BitSet")) (by decide)
    have c377 := (c374.ext E375)
    have c378 := (Fx373_2.ext E375)
    have c379 := (Fx373_6.ext E375)
    have c380 := (Fx373_10.ext E375)
    have c381 := (Fx373_14.ext E375)
    have c382 := (Fx373_18.ext E375)
    obtain ⟨_, _, ⟨T376, L376, k376, n376⟩, -, X376, ⟨Lc376, hQ376, l376, y376, z376⟩, st376⟩ := X375.specialBack hx (y := Y7) rfl hown (mvT hZ (hw _ (tk 50 rfl))) (mvT hZ (hw _ (tk 51 rfl))) (mvT hZ (hw _ (tk 52 rfl))) (by decide) (backOf (W := 1) (rm6x1 l Z a0 hw [] hS0 b375 h375 n0 O375 g_b375 A375 F_denied_b375 F_permitted_b375) hZ (hw _ (tk 52 rfl)) (hw _ (tk 49 rfl)) (by decide) (by decide)) (g := (mkF m 71 #[.val (.int p0), .val (.int p1), .val (.int p2), .val (.int p3), .val (.int ((p0 &&& (7 : Int32)) + (1 : Int32))), .val (.int ((p1 &&& (2147483647 : Int32)) % ((p0 &&& (7 : Int32)) + (1 : Int32)))), .val (.int ((p2 &&& (2147483647 : Int32)) % ((p0 &&& (7 : Int32)) + (1 : Int32)))), .val (.int (((p3.toUInt32 >>> ((1 : Int32) &&& 31).toUInt32).toInt32) &&& (255 : Int32))), .val (.int (1 : Int32)), .val (.ref b348), .val .null, .unset, .unset, .unset, .unset] [(.ref b375), (.ref b375)])) rfl (by rw [hml]; rfl) (Steps.refl _) (a := b375) (argsL := []) (rest := [(.ref b375)]) (lenOf pd_0 rfl) rfl (by show 2 * 0 + _ ≤ _; exact Nat.le_of_eq rfl) (hb hby at_71) (fun _ _ => ⟨rfl, e375, (by decide : 7 + 4 ≤ _), (by decide : 39 + 8 ≤ _)⟩)
    dsimp only [Pt.U, Pt.locs, Pt.cells, Pt.slots] at X376 l376 y376 z376 st376 hQ376
    subst l376 y376 z376
    obtain ⟨b94_376, b101_111_117_376, k101_111_117_376, b125_376, b101_111_126_376, k101_111_126_376, rv376, N376q, O376, K376c, Fe376_0, Fe376_1, Fx376_0, Fx376_1, Fx376_2, Fx376_3, Fx376_4, Fx376_5, Fx376_6, Fx376_7, Fx376_8, Fx376_9, Fx376_10, Fx376_11, Fx376_12, Fx376_13, Fx376_14, Fx376_15, Fx376_16, Fx376_17, Fx376_18, Fx376_19, Fx376_20, Fx376_21, Fx376_22, Fx376_23⟩ := hQ376
    subst rv376
    have N376 := Fr.app N373 N376q
    have g_b94_376 := Fx376_0
    have ne_b348_b94_376 : b348 ≠ b94_376 := Nat.ne_of_lt (Nat.lt_of_lt_of_le c377.lt Fx376_1)
    have ne_b40_373_b94_376 : b40_373 ≠ b94_376 := Nat.ne_of_lt (Nat.lt_of_lt_of_le c378.lt Fx376_1)
    have ne_b68_373_b94_376 : b68_373 ≠ b94_376 := Nat.ne_of_lt (Nat.lt_of_lt_of_le c379.lt Fx376_1)
    have ne_b47_373_b94_376 : b47_373 ≠ b94_376 := Nat.ne_of_lt (Nat.lt_of_lt_of_le c380.lt Fx376_1)
    have ne_b17_48_373_b94_376 : b17_48_373 ≠ b94_376 := Nat.ne_of_lt (Nat.lt_of_lt_of_le c381.lt Fx376_1)
    have ne_b58_373_b94_376 : b58_373 ≠ b94_376 := Nat.ne_of_lt (Nat.lt_of_lt_of_le c382.lt Fx376_1)
    have ne_b375_b94_376 : b375 ≠ b94_376 := Nat.ne_of_lt (Nat.lt_of_lt_of_le A375.lt Fx376_1)
    have g_b101_111_117_376 := Fx376_6
    have ne_b348_b101_111_117_376 : b348 ≠ b101_111_117_376 := Nat.ne_of_lt (Nat.lt_of_lt_of_le c377.lt Fx376_7)
    have ne_b40_373_b101_111_117_376 : b40_373 ≠ b101_111_117_376 := Nat.ne_of_lt (Nat.lt_of_lt_of_le c378.lt Fx376_7)
    have ne_b68_373_b101_111_117_376 : b68_373 ≠ b101_111_117_376 := Nat.ne_of_lt (Nat.lt_of_lt_of_le c379.lt Fx376_7)
    have ne_b47_373_b101_111_117_376 : b47_373 ≠ b101_111_117_376 := Nat.ne_of_lt (Nat.lt_of_lt_of_le c380.lt Fx376_7)
    have ne_b17_48_373_b101_111_117_376 : b17_48_373 ≠ b101_111_117_376 := Nat.ne_of_lt (Nat.lt_of_lt_of_le c381.lt Fx376_7)
    have ne_b58_373_b101_111_117_376 : b58_373 ≠ b101_111_117_376 := Nat.ne_of_lt (Nat.lt_of_lt_of_le c382.lt Fx376_7)
    have ne_b375_b101_111_117_376 : b375 ≠ b101_111_117_376 := Nat.ne_of_lt (Nat.lt_of_lt_of_le A375.lt Fx376_7)
    have g_b125_376 := Fx376_9
    have ne_b348_b125_376 : b348 ≠ b125_376 := Nat.ne_of_lt (Nat.lt_of_lt_of_le c377.lt Fx376_10)
    have ne_b40_373_b125_376 : b40_373 ≠ b125_376 := Nat.ne_of_lt (Nat.lt_of_lt_of_le c378.lt Fx376_10)
    have ne_b68_373_b125_376 : b68_373 ≠ b125_376 := Nat.ne_of_lt (Nat.lt_of_lt_of_le c379.lt Fx376_10)
    have ne_b47_373_b125_376 : b47_373 ≠ b125_376 := Nat.ne_of_lt (Nat.lt_of_lt_of_le c380.lt Fx376_10)
    have ne_b17_48_373_b125_376 : b17_48_373 ≠ b125_376 := Nat.ne_of_lt (Nat.lt_of_lt_of_le c381.lt Fx376_10)
    have ne_b58_373_b125_376 : b58_373 ≠ b125_376 := Nat.ne_of_lt (Nat.lt_of_lt_of_le c382.lt Fx376_10)
    have ne_b375_b125_376 : b375 ≠ b125_376 := Nat.ne_of_lt (Nat.lt_of_lt_of_le A375.lt Fx376_10)
    have g_b101_111_126_376 := Fx376_15
    have ne_b348_b101_111_126_376 : b348 ≠ b101_111_126_376 := Nat.ne_of_lt (Nat.lt_of_lt_of_le c377.lt Fx376_16)
    have ne_b40_373_b101_111_126_376 : b40_373 ≠ b101_111_126_376 := Nat.ne_of_lt (Nat.lt_of_lt_of_le c378.lt Fx376_16)
    have ne_b68_373_b101_111_126_376 : b68_373 ≠ b101_111_126_376 := Nat.ne_of_lt (Nat.lt_of_lt_of_le c379.lt Fx376_16)
    have ne_b47_373_b101_111_126_376 : b47_373 ≠ b101_111_126_376 := Nat.ne_of_lt (Nat.lt_of_lt_of_le c380.lt Fx376_16)
    have ne_b17_48_373_b101_111_126_376 : b17_48_373 ≠ b101_111_126_376 := Nat.ne_of_lt (Nat.lt_of_lt_of_le c381.lt Fx376_16)
    have ne_b58_373_b101_111_126_376 : b58_373 ≠ b101_111_126_376 := Nat.ne_of_lt (Nat.lt_of_lt_of_le c382.lt Fx376_16)
    have ne_b375_b101_111_126_376 : b375 ≠ b101_111_126_376 := Nat.ne_of_lt (Nat.lt_of_lt_of_le A375.lt Fx376_16)
    have c383 := ((Fe373_2.ext E375).keep K376c (ninS ne_b348_b375 nin0))
    obtain ⟨T384, X384, e384, st384⟩ := getF X376 hx hZ hown (host := "") (Or.inl (hw _ (tk 80 rfl))) Via.refl rfl c383 (g := (mkF m 78 #[.val (.int p0), .val (.int p1), .val (.int p2), .val (.int p3), .val (.int ((p0 &&& (7 : Int32)) + (1 : Int32))), .val (.int ((p1 &&& (2147483647 : Int32)) % ((p0 &&& (7 : Int32)) + (1 : Int32)))), .val (.int ((p2 &&& (2147483647 : Int32)) % ((p0 &&& (7 : Int32)) + (1 : Int32)))), .val (.int (((p3.toUInt32 >>> ((1 : Int32) &&& 31).toUInt32).toInt32) &&& (255 : Int32))), .val (.int (1 : Int32)), .val (.ref b348), .val (.ref b375), .unset, .unset, .unset, .unset] [(.ref b348)])) rfl rfl (hb hby at_78)
    have c385 := (c379.keep K376c (ninS ne_b68_373_b375 nin0))
    obtain ⟨cl386, Ar386, qa386, Sa386, Ma386, Ha386, Ga386⟩ := id c385
    have hin386 : ¬ (((p1 &&& (2147483647 : Int32)) % ((p0 &&& (7 : Int32)) + (1 : Int32))) < 0 ∨ cl386.slots.size ≤ (((p1 &&& (2147483647 : Int32)) % ((p0 &&& (7 : Int32)) + (1 : Int32)))).toNatClampNeg) := by exact inb_of Sa386 ⟨fk2, fk4⟩
    have c387 := (A375.keep K376c)
    obtain ⟨T388, h388, X388, e388, W388, st388⟩ := stR X384 hx hZ e384 Ar386 (j := ((p1 &&& (2147483647 : Int32)) % ((p0 &&& (7 : Int32)) + (1 : Int32)))) hin386 rfl (Sto.ofV Ar386 qa386 Fx373_7 (Ins.self c387)) (g := (mkF m 85 #[.val (.int p0), .val (.int p1), .val (.int p2), .val (.int p3), .val (.int ((p0 &&& (7 : Int32)) + (1 : Int32))), .val (.int ((p1 &&& (2147483647 : Int32)) % ((p0 &&& (7 : Int32)) + (1 : Int32)))), .val (.int ((p2 &&& (2147483647 : Int32)) % ((p0 &&& (7 : Int32)) + (1 : Int32)))), .val (.int (((p3.toUInt32 >>> ((1 : Int32) &&& 31).toUInt32).toInt32) &&& (255 : Int32))), .val (.int (1 : Int32)), .val (.ref b348), .val (.ref b375), .unset, .unset, .unset, .unset] [(.ref b375), (.int ((p1 &&& (2147483647 : Int32)) % ((p0 &&& (7 : Int32)) + (1 : Int32)))), (.ref b68_373)])) rfl rfl (hb hby at_85)
    have V_b68_373_388 : Arh Z h388 b68_373 k68_373 (.object "com/example/vetd/vetd/Policy$Lines") ((p0 &&& (7 : Int32)) + (1 : Int32)) [(((p1 &&& (2147483647 : Int32)) % ((p0 &&& (7 : Int32)) + (1 : Int32))), (.ref b375))] [] .null := Arh.push Ar386 qa386 Sa386 Ma386 Ha386 Ga386 rfl W388 hin386
    have O388 : Old Z n0 h388 := O376.wr W388 g_b68_373
    have N388 := Fr.snoc X388 N376 g_b68_373
    have c394 := ((c377.keep K376c).wr W388)
    have c395 := (c383.other W388 (Or.inl ne_b348_b68_373))
    have c396 := (c387.wr W388)
    have c397 := (Fe376_0.other W388 (Or.inl (Ne.symm ne_b68_373_b375)))
    have c398 := (Fe376_1.other W388 (Or.inl (Ne.symm ne_b68_373_b375)))
    have c399 := (Fx376_11.wr W388)
    have c400 := (Fx376_13.other W388 (Or.inl (Ne.symm ne_b68_373_b125_376)))
    have c401 := (Fx376_14.other W388 (Or.inl (Ne.symm ne_b68_373_b125_376)))
    have c402 := (Fx376_12.other W388 (Or.inl (Ne.symm ne_b68_373_b125_376)))
    have c403 := (Fx376_17.other W388 (Ne.symm ne_b68_373_b101_111_126_376))
    have c404 := (Fx376_2.wr W388)
    have c405 := (Fx376_4.other W388 (Or.inl (Ne.symm ne_b68_373_b94_376)))
    have c406 := (Fx376_5.other W388 (Or.inl (Ne.symm ne_b68_373_b94_376)))
    have c407 := (Fx376_3.other W388 (Or.inl (Ne.symm ne_b68_373_b94_376)))
    have c408 := (Fx376_8.other W388 (Ne.symm ne_b68_373_b101_111_117_376))
    obtain ⟨cq409, kq409, q409a, q409b, q409c⟩ := isOf hZ e388 c394
    obtain ⟨_, _, ⟨T409, L409, k409, n409⟩, -, X409, ⟨Lc409, hQ409, l409, y409, z409⟩, st409⟩ := X388.virtualBack hx (y := Y8) (z := Y8) hown (mvT hZ (hw _ (tk 82 rfl))) (mvT hZ (hw _ (tk 83 rfl))) (notFace_of_selects (args := #[]) (mvT hZ (hw _ (tk 85 rfl)))) (mvT hZ (hw _ (tk 85 rfl))) (mvT hZ (hw _ (tk 84 rfl))) (by decide) (backOf (W := 0) (rm10x2 l Z a0 hw [] hS0 b348 ((p1 &&& (2147483647 : Int32)) % ((p0 &&& (7 : Int32)) + (1 : Int32))) b68_373 b375 b125_376 b101_111_126_376 b94_376 b101_111_117_376 k68_373 ((p0 &&& (7 : Int32)) + (1 : Int32)) ((p1 &&& (2147483647 : Int32)) % ((p0 &&& (7 : Int32)) + (1 : Int32))) k101_111_126_376 k101_111_117_376 h388 n0 O388 g_b348 g_b68_373 g_b375 g_b125_376 g_b101_111_126_376 g_b94_376 g_b101_111_117_376 c394 c395 Fx373_7 V_b68_373_388 c396 c397 c398 c399 c400 c401 c402 c403 c404 c405 c406 c407 c408 ne_b348_b68_373 ne_b348_b375 ne_b348_b125_376 ne_b348_b101_111_126_376 ne_b348_b94_376 ne_b348_b101_111_117_376 ne_b68_373_b375 ne_b68_373_b125_376 ne_b68_373_b101_111_126_376 ne_b68_373_b94_376 ne_b68_373_b101_111_117_376 ne_b375_b125_376 ne_b375_b101_111_126_376 ne_b375_b94_376 ne_b375_b101_111_117_376 Fx376_23 (Ne.symm Fx376_19) (Ne.symm Fx376_21) (Ne.symm Fx376_20) (Ne.symm Fx376_22) Fx376_18 rfl fk4 fk2) hZ (hw _ (tk 86 rfl)) (hw _ (tk 3 rfl)) (by decide) (by decide)) q409a q409c (g := (mkF m 90 #[.val (.int p0), .val (.int p1), .val (.int p2), .val (.int p3), .val (.int ((p0 &&& (7 : Int32)) + (1 : Int32))), .val (.int ((p1 &&& (2147483647 : Int32)) % ((p0 &&& (7 : Int32)) + (1 : Int32)))), .val (.int ((p2 &&& (2147483647 : Int32)) % ((p0 &&& (7 : Int32)) + (1 : Int32)))), .val (.int (((p3.toUInt32 >>> ((1 : Int32) &&& 31).toUInt32).toInt32) &&& (255 : Int32))), .val (.int (1 : Int32)), .val (.ref b348), .val (.ref b375), .unset, .unset, .unset, .unset] [(.int ((p1 &&& (2147483647 : Int32)) % ((p0 &&& (7 : Int32)) + (1 : Int32)))), (.ref b348)])) rfl (by rw [hml]; rfl) (Steps.refl _) (argsL := [(.int ((p1 &&& (2147483647 : Int32)) % ((p0 &&& (7 : Int32)) + (1 : Int32))))]) (rest := []) (lenOf pd_3 rfl) rfl (by show 2 * 0 + _ ≤ _; exact Nat.le_of_eq rfl) (hb hby at_90) (fun _ _ => ⟨rfl, e388, (by decide : 11 + 0 ≤ _), (by decide : 47 + 0 ≤ _)⟩)
    dsimp only [Pt.U, Pt.locs, Pt.cells, Pt.slots] at X409 l409 y409 z409 st409 hQ409
    subst l409 y409 z409
    obtain ⟨rv409, N409q, O409, K409c⟩ := hQ409
    subst rv409
    have N409 := Fr.app N388 N409q
    have c410 := (c395.keep K409c nin0)
    obtain ⟨T411, X411, e411, st411⟩ := getF X409 hx hZ hown (host := "") (Or.inl (hw _ (tk 80 rfl))) Via.refl rfl c410 (g := (mkF m 102 #[.val (.int p0), .val (.int p1), .val (.int p2), .val (.int p3), .val (.int ((p0 &&& (7 : Int32)) + (1 : Int32))), .val (.int ((p1 &&& (2147483647 : Int32)) % ((p0 &&& (7 : Int32)) + (1 : Int32)))), .val (.int ((p2 &&& (2147483647 : Int32)) % ((p0 &&& (7 : Int32)) + (1 : Int32)))), .val (.int (((p3.toUInt32 >>> ((1 : Int32) &&& 31).toUInt32).toInt32) &&& (255 : Int32))), .val (.int (1 : Int32)), .val (.ref b348), .val (.ref b375), .val (.ref b375), .unset, .unset, .unset] [(.ref b348)])) rfl rfl (hb hby at_102)
    have c412 := (V_b68_373_388.keep K409c nin0)
    obtain ⟨cl413, Ar413, qa413, Sa413, Ma413, Ha413, Ga413⟩ := id c412
    obtain ⟨T414, X414, e414, st414⟩ := getF X411 hx hZ hown (host := "") (Or.inl (hw _ (tk 80 rfl))) Via.refl e411 c410 (g := (mkF m 113 #[.val (.int p0), .val (.int p1), .val (.int p2), .val (.int p3), .val (.int ((p0 &&& (7 : Int32)) + (1 : Int32))), .val (.int ((p1 &&& (2147483647 : Int32)) % ((p0 &&& (7 : Int32)) + (1 : Int32)))), .val (.int ((p2 &&& (2147483647 : Int32)) % ((p0 &&& (7 : Int32)) + (1 : Int32)))), .val (.int (((p3.toUInt32 >>> ((1 : Int32) &&& 31).toUInt32).toInt32) &&& (255 : Int32))), .val (.int (1 : Int32)), .val (.ref b348), .val (.ref b375), .val (.ref b375), .unset, .unset, .unset] [(.ref b348)])) rfl rfl (hb hby at_113)
    obtain ⟨cl415, Ar415, qa415, Sa415, Ma415, Ha415, Ga415⟩ := id c412
    have hin415 : ¬ (((p1 &&& (2147483647 : Int32)) % ((p0 &&& (7 : Int32)) + (1 : Int32))) < 0 ∨ cl415.slots.size ≤ (((p1 &&& (2147483647 : Int32)) % ((p0 &&& (7 : Int32)) + (1 : Int32)))).toNatClampNeg) := by exact inb_of Sa415 ⟨fk2, fk4⟩
    have hat415 : cl415.slots[(((p1 &&& (2147483647 : Int32)) % ((p0 &&& (7 : Int32)) + (1 : Int32)))).toNatClampNeg]? = some (.ref b375) := atH Ha415 hin415 (getH_hit fk2 rfl)
    have c421 := (c394.keep K409c)
    have c422 := (c396.keep K409c)
    have c423 := (c397.keep K409c nin0)
    have c424 := (c398.keep K409c nin0)
    have c425 := (c399.keep K409c)
    have c426 := (c400.keep K409c nin0)
    have c427 := (c401.keep K409c nin0)
    have c428 := (c402.keep K409c nin0)
    have c429 := (c403.keep K409c nin0)
    have c430 := (c404.keep K409c)
    have c431 := (c405.keep K409c nin0)
    have c432 := (c406.keep K409c nin0)
    have c433 := (c407.keep K409c nin0)
    have c434 := (c408.keep K409c nin0)
    obtain ⟨cq435, kq435, q435a, q435b, q435c⟩ := isOf hZ e414 c421
    obtain ⟨_, _, ⟨T435, L435, k435, n435⟩, -, X435, ⟨Lc435, hQ435, l435, y435, z435⟩, st435⟩ := X414.virtualBack hx (y := Y8) (z := Y8) hown (mvT hZ (hw _ (tk 82 rfl))) (mvT hZ (hw _ (tk 83 rfl))) (notFace_of_selects (args := #[]) (mvT hZ (hw _ (tk 85 rfl)))) (mvT hZ (hw _ (tk 85 rfl))) (mvT hZ (hw _ (tk 84 rfl))) (by decide) (backOf (W := 0) (rm10x2 l Z a0 hw [] hS0 b348 ((p1 &&& (2147483647 : Int32)) % ((p0 &&& (7 : Int32)) + (1 : Int32))) b68_373 b375 b125_376 b101_111_126_376 b94_376 b101_111_117_376 k68_373 ((p0 &&& (7 : Int32)) + (1 : Int32)) ((p1 &&& (2147483647 : Int32)) % ((p0 &&& (7 : Int32)) + (1 : Int32))) k101_111_126_376 k101_111_117_376 T409.heap n0 O409 g_b348 g_b68_373 g_b375 g_b125_376 g_b101_111_126_376 g_b94_376 g_b101_111_117_376 c421 c410 Fx373_7 c412 c422 c423 c424 c425 c426 c427 c428 c429 c430 c431 c432 c433 c434 ne_b348_b68_373 ne_b348_b375 ne_b348_b125_376 ne_b348_b101_111_126_376 ne_b348_b94_376 ne_b348_b101_111_117_376 ne_b68_373_b375 ne_b68_373_b125_376 ne_b68_373_b101_111_126_376 ne_b68_373_b94_376 ne_b68_373_b101_111_117_376 ne_b375_b125_376 ne_b375_b101_111_126_376 ne_b375_b94_376 ne_b375_b101_111_117_376 Fx376_23 (Ne.symm Fx376_19) (Ne.symm Fx376_21) (Ne.symm Fx376_20) (Ne.symm Fx376_22) Fx376_18 rfl fk4 fk2) hZ (hw _ (tk 86 rfl)) (hw _ (tk 3 rfl)) (by decide) (by decide)) q435a q435c (g := (mkF m 159 #[.val (.int p0), .val (.int p1), .val (.int p2), .val (.int p3), .val (.int ((p0 &&& (7 : Int32)) + (1 : Int32))), .val (.int ((p1 &&& (2147483647 : Int32)) % ((p0 &&& (7 : Int32)) + (1 : Int32)))), .val (.int ((p2 &&& (2147483647 : Int32)) % ((p0 &&& (7 : Int32)) + (1 : Int32)))), .val (.int (((p3.toUInt32 >>> ((1 : Int32) &&& 31).toUInt32).toInt32) &&& (255 : Int32))), .val (.int (1 : Int32)), .val (.ref b348), .val (.ref b375), .val (.ref b375), .val (.int (1 : Int32)), .unset, .unset] [(.int ((p1 &&& (2147483647 : Int32)) % ((p0 &&& (7 : Int32)) + (1 : Int32)))), (.ref b348)])) rfl (by rw [hml]; rfl) (Steps.refl _) (argsL := [(.int ((p1 &&& (2147483647 : Int32)) % ((p0 &&& (7 : Int32)) + (1 : Int32))))]) (rest := []) (lenOf pd_3 rfl) rfl (by show 2 * 0 + _ ≤ _; exact Nat.le_of_eq rfl) (hb hby at_159) (fun _ _ => ⟨rfl, e414, (by decide : 11 + 0 ≤ _), (by decide : 47 + 0 ≤ _)⟩)
    dsimp only [Pt.U, Pt.locs, Pt.cells, Pt.slots] at X435 l435 y435 z435 st435 hQ435
    subst l435 y435 z435
    obtain ⟨rv435, N435q, O435, K435c⟩ := hQ435
    subst rv435
    have N435 := Fr.app N409 N435q
    have c436 := (c410.keep K435c nin0)
    obtain ⟨T437, X437, e437, st437⟩ := getF X435 hx hZ hown (host := "") (Or.inl (hw _ (tk 80 rfl))) Via.refl rfl c436 (g := (mkF m 178 #[.val (.int p0), .val (.int p1), .val (.int p2), .val (.int p3), .val (.int ((p0 &&& (7 : Int32)) + (1 : Int32))), .val (.int ((p1 &&& (2147483647 : Int32)) % ((p0 &&& (7 : Int32)) + (1 : Int32)))), .val (.int ((p2 &&& (2147483647 : Int32)) % ((p0 &&& (7 : Int32)) + (1 : Int32)))), .val (.int (((p3.toUInt32 >>> ((1 : Int32) &&& 31).toUInt32).toInt32) &&& (255 : Int32))), .val (.int (1 : Int32)), .val (.ref b348), .val (.ref b375), .val (.ref b375), .val (.int (1 : Int32)), .val (.ref b375), .unset] [(.ref b348)])) rfl rfl (hb hby at_178)
    have c438 := (c412.keep K435c nin0)
    obtain ⟨cl439, Ar439, qa439, Sa439, Ma439, Ha439, Ga439⟩ := id c438
    have hin439 : ¬ (((p1 &&& (2147483647 : Int32)) % ((p0 &&& (7 : Int32)) + (1 : Int32))) < 0 ∨ cl439.slots.size ≤ (((p1 &&& (2147483647 : Int32)) % ((p0 &&& (7 : Int32)) + (1 : Int32)))).toNatClampNeg) := by exact inb_of Sa439 ⟨fk2, fk4⟩
    have hat439 : cl439.slots[(((p1 &&& (2147483647 : Int32)) % ((p0 &&& (7 : Int32)) + (1 : Int32)))).toNatClampNeg]? = some (.ref b375) := atH Ha439 hin439 (getH_hit fk2 rfl)
    have pre440 : ∀ t, Steps p.tables e below (T437.setTop (mkF m 200 #[.val (.int p0), .val (.int p1), .val (.int p2), .val (.int p3), .val (.int ((p0 &&& (7 : Int32)) + (1 : Int32))), .val (.int ((p1 &&& (2147483647 : Int32)) % ((p0 &&& (7 : Int32)) + (1 : Int32)))), .val (.int ((p2 &&& (2147483647 : Int32)) % ((p0 &&& (7 : Int32)) + (1 : Int32)))), .val (.int (((p3.toUInt32 >>> ((1 : Int32) &&& 31).toUInt32).toInt32) &&& (255 : Int32))), .val (.int (1 : Int32)), .val (.ref b348), .val (.ref b375), .val (.ref b375), .val (.int (1 : Int32)), .val (.ref b375), .unset] [(.int ((p1 &&& (2147483647 : Int32)) % ((p0 &&& (7 : Int32)) + (1 : Int32)))), (.int ((p2 &&& (2147483647 : Int32)) % ((p0 &&& (7 : Int32)) + (1 : Int32))))])) t → Steps p.tables e below (s₁.setTop (entryFrame m #[(.int p0), (.int p1), (.int p2), (.int p3)] maxLocals)) t := fun t kt => by
      refine pre1 t ?_
      show Steps p.tables e below (s₁.setTop (mkF m 38 #[.val (.int p0), .val (.int p1), .val (.int p2), .val (.int p3), .val (.int ((p0 &&& (7 : Int32)) + (1 : Int32))), .val (.int ((p1 &&& (2147483647 : Int32)) % ((p0 &&& (7 : Int32)) + (1 : Int32)))), .val (.int ((p2 &&& (2147483647 : Int32)) % ((p0 &&& (7 : Int32)) + (1 : Int32)))), .val (.int (((p3.toUInt32 >>> ((1 : Int32) &&& 31).toUInt32).toInt32) &&& (255 : Int32))), .unset, .unset, .unset, .unset, .unset, .unset, .unset] [(.int (p3 &&& (1 : Int32)))])) _
      refine XS.ifNo X0.here hx rfl (hb hby at_38) rfl ((if0 _ _).trans (feq hc2).1) ?_
      show Steps p.tables e below (s₁.setTop (mkF m 41 #[.val (.int p0), .val (.int p1), .val (.int p2), .val (.int p3), .val (.int ((p0 &&& (7 : Int32)) + (1 : Int32))), .val (.int ((p1 &&& (2147483647 : Int32)) % ((p0 &&& (7 : Int32)) + (1 : Int32)))), .val (.int ((p2 &&& (2147483647 : Int32)) % ((p0 &&& (7 : Int32)) + (1 : Int32)))), .val (.int (((p3.toUInt32 >>> ((1 : Int32) &&& 31).toUInt32).toInt32) &&& (255 : Int32))), .unset, .unset, .unset, .unset, .unset, .unset, .unset] [])) _
      refine XS.iconst X0.here hx rfl (hb hby at_41) ?_
      show Steps p.tables e below (s₁.setTop (mkF m 42 #[.val (.int p0), .val (.int p1), .val (.int p2), .val (.int p3), .val (.int ((p0 &&& (7 : Int32)) + (1 : Int32))), .val (.int ((p1 &&& (2147483647 : Int32)) % ((p0 &&& (7 : Int32)) + (1 : Int32)))), .val (.int ((p2 &&& (2147483647 : Int32)) % ((p0 &&& (7 : Int32)) + (1 : Int32)))), .val (.int (((p3.toUInt32 >>> ((1 : Int32) &&& 31).toUInt32).toInt32) &&& (255 : Int32))), .unset, .unset, .unset, .unset, .unset, .unset, .unset] [(.int (1 : Int32))])) _
      refine XS.goto X0.here hx rfl (pc0 := 42) (pc' := 46) rfl (hb hby at_42) (by decide) (by decide) ?_
      show Steps p.tables e below (s₁.setTop (mkF m 46 #[.val (.int p0), .val (.int p1), .val (.int p2), .val (.int p3), .val (.int ((p0 &&& (7 : Int32)) + (1 : Int32))), .val (.int ((p1 &&& (2147483647 : Int32)) % ((p0 &&& (7 : Int32)) + (1 : Int32)))), .val (.int ((p2 &&& (2147483647 : Int32)) % ((p0 &&& (7 : Int32)) + (1 : Int32)))), .val (.int (((p3.toUInt32 >>> ((1 : Int32) &&& 31).toUInt32).toInt32) &&& (255 : Int32))), .unset, .unset, .unset, .unset, .unset, .unset, .unset] [(.int (1 : Int32))])) _
      refine XS.istore X0.here hx rfl (hb hby at_46) rfl (l' := #[.val (.int p0), .val (.int p1), .val (.int p2), .val (.int p3), .val (.int ((p0 &&& (7 : Int32)) + (1 : Int32))), .val (.int ((p1 &&& (2147483647 : Int32)) % ((p0 &&& (7 : Int32)) + (1 : Int32)))), .val (.int ((p2 &&& (2147483647 : Int32)) % ((p0 &&& (7 : Int32)) + (1 : Int32)))), .val (.int (((p3.toUInt32 >>> ((1 : Int32) &&& 31).toUInt32).toInt32) &&& (255 : Int32))), .val (.int (1 : Int32)), .unset, .unset, .unset, .unset, .unset, .unset]) rfl ?_
      show Steps p.tables e below (s₁.setTop (mkF m 48 #[.val (.int p0), .val (.int p1), .val (.int p2), .val (.int p3), .val (.int ((p0 &&& (7 : Int32)) + (1 : Int32))), .val (.int ((p1 &&& (2147483647 : Int32)) % ((p0 &&& (7 : Int32)) + (1 : Int32)))), .val (.int ((p2 &&& (2147483647 : Int32)) % ((p0 &&& (7 : Int32)) + (1 : Int32)))), .val (.int (((p3.toUInt32 >>> ((1 : Int32) &&& 31).toUInt32).toInt32) &&& (255 : Int32))), .val (.int (1 : Int32)), .unset, .unset, .unset, .unset, .unset, .unset] [])) _
      refine st348 _ ?_
      show Steps p.tables e below (T348.setTop (mkF m 51 #[.val (.int p0), .val (.int p1), .val (.int p2), .val (.int p3), .val (.int ((p0 &&& (7 : Int32)) + (1 : Int32))), .val (.int ((p1 &&& (2147483647 : Int32)) % ((p0 &&& (7 : Int32)) + (1 : Int32)))), .val (.int ((p2 &&& (2147483647 : Int32)) % ((p0 &&& (7 : Int32)) + (1 : Int32)))), .val (.int (((p3.toUInt32 >>> ((1 : Int32) &&& 31).toUInt32).toInt32) &&& (255 : Int32))), .val (.int (1 : Int32)), .unset, .unset, .unset, .unset, .unset, .unset] [(.ref b348)])) _
      refine XS.dup X348.here hx rfl (hb hby at_51) rfl rfl ?_
      show Steps p.tables e below (T348.setTop (mkF m 52 #[.val (.int p0), .val (.int p1), .val (.int p2), .val (.int p3), .val (.int ((p0 &&& (7 : Int32)) + (1 : Int32))), .val (.int ((p1 &&& (2147483647 : Int32)) % ((p0 &&& (7 : Int32)) + (1 : Int32)))), .val (.int ((p2 &&& (2147483647 : Int32)) % ((p0 &&& (7 : Int32)) + (1 : Int32)))), .val (.int (((p3.toUInt32 >>> ((1 : Int32) &&& 31).toUInt32).toInt32) &&& (255 : Int32))), .val (.int (1 : Int32)), .unset, .unset, .unset, .unset, .unset, .unset] [(.ref b348), (.ref b348)])) _
      refine XS.iload X348.here hx rfl (hb hby at_52) rfl ?_
      show Steps p.tables e below (T348.setTop (mkF m 54 #[.val (.int p0), .val (.int p1), .val (.int p2), .val (.int p3), .val (.int ((p0 &&& (7 : Int32)) + (1 : Int32))), .val (.int ((p1 &&& (2147483647 : Int32)) % ((p0 &&& (7 : Int32)) + (1 : Int32)))), .val (.int ((p2 &&& (2147483647 : Int32)) % ((p0 &&& (7 : Int32)) + (1 : Int32)))), .val (.int (((p3.toUInt32 >>> ((1 : Int32) &&& 31).toUInt32).toInt32) &&& (255 : Int32))), .val (.int (1 : Int32)), .unset, .unset, .unset, .unset, .unset, .unset] [(.int ((p0 &&& (7 : Int32)) + (1 : Int32))), (.ref b348), (.ref b348)])) _
      refine st373.trans ?_
      show Steps p.tables e below (T373.setTop (mkF m 57 #[.val (.int p0), .val (.int p1), .val (.int p2), .val (.int p3), .val (.int ((p0 &&& (7 : Int32)) + (1 : Int32))), .val (.int ((p1 &&& (2147483647 : Int32)) % ((p0 &&& (7 : Int32)) + (1 : Int32)))), .val (.int ((p2 &&& (2147483647 : Int32)) % ((p0 &&& (7 : Int32)) + (1 : Int32)))), .val (.int (((p3.toUInt32 >>> ((1 : Int32) &&& 31).toUInt32).toInt32) &&& (255 : Int32))), .val (.int (1 : Int32)), .unset, .unset, .unset, .unset, .unset, .unset] [(.ref b348)])) _
      refine XS.astore X373.here hx rfl (hb hby at_57) rfl rfl (l' := #[.val (.int p0), .val (.int p1), .val (.int p2), .val (.int p3), .val (.int ((p0 &&& (7 : Int32)) + (1 : Int32))), .val (.int ((p1 &&& (2147483647 : Int32)) % ((p0 &&& (7 : Int32)) + (1 : Int32)))), .val (.int ((p2 &&& (2147483647 : Int32)) % ((p0 &&& (7 : Int32)) + (1 : Int32)))), .val (.int (((p3.toUInt32 >>> ((1 : Int32) &&& 31).toUInt32).toInt32) &&& (255 : Int32))), .val (.int (1 : Int32)), .val (.ref b348), .unset, .unset, .unset, .unset, .unset]) rfl ?_
      show Steps p.tables e below (T373.setTop (mkF m 59 #[.val (.int p0), .val (.int p1), .val (.int p2), .val (.int p3), .val (.int ((p0 &&& (7 : Int32)) + (1 : Int32))), .val (.int ((p1 &&& (2147483647 : Int32)) % ((p0 &&& (7 : Int32)) + (1 : Int32)))), .val (.int ((p2 &&& (2147483647 : Int32)) % ((p0 &&& (7 : Int32)) + (1 : Int32)))), .val (.int (((p3.toUInt32 >>> ((1 : Int32) &&& 31).toUInt32).toInt32) &&& (255 : Int32))), .val (.int (1 : Int32)), .val (.ref b348), .unset, .unset, .unset, .unset, .unset] [])) _
      refine XS.aconstNull X373.here hx rfl (hb hby at_59) ?_
      show Steps p.tables e below (T373.setTop (mkF m 60 #[.val (.int p0), .val (.int p1), .val (.int p2), .val (.int p3), .val (.int ((p0 &&& (7 : Int32)) + (1 : Int32))), .val (.int ((p1 &&& (2147483647 : Int32)) % ((p0 &&& (7 : Int32)) + (1 : Int32)))), .val (.int ((p2 &&& (2147483647 : Int32)) % ((p0 &&& (7 : Int32)) + (1 : Int32)))), .val (.int (((p3.toUInt32 >>> ((1 : Int32) &&& 31).toUInt32).toInt32) &&& (255 : Int32))), .val (.int (1 : Int32)), .val (.ref b348), .unset, .unset, .unset, .unset, .unset] [.null])) _
      refine XS.astore X373.here hx rfl (hb hby at_60) rfl rfl (l' := #[.val (.int p0), .val (.int p1), .val (.int p2), .val (.int p3), .val (.int ((p0 &&& (7 : Int32)) + (1 : Int32))), .val (.int ((p1 &&& (2147483647 : Int32)) % ((p0 &&& (7 : Int32)) + (1 : Int32)))), .val (.int ((p2 &&& (2147483647 : Int32)) % ((p0 &&& (7 : Int32)) + (1 : Int32)))), .val (.int (((p3.toUInt32 >>> ((1 : Int32) &&& 31).toUInt32).toInt32) &&& (255 : Int32))), .val (.int (1 : Int32)), .val (.ref b348), .val .null, .unset, .unset, .unset, .unset]) rfl ?_
      show Steps p.tables e below (T373.setTop (mkF m 62 #[.val (.int p0), .val (.int p1), .val (.int p2), .val (.int p3), .val (.int ((p0 &&& (7 : Int32)) + (1 : Int32))), .val (.int ((p1 &&& (2147483647 : Int32)) % ((p0 &&& (7 : Int32)) + (1 : Int32)))), .val (.int ((p2 &&& (2147483647 : Int32)) % ((p0 &&& (7 : Int32)) + (1 : Int32)))), .val (.int (((p3.toUInt32 >>> ((1 : Int32) &&& 31).toUInt32).toInt32) &&& (255 : Int32))), .val (.int (1 : Int32)), .val (.ref b348), .val .null, .unset, .unset, .unset, .unset] [])) _
      refine XS.iload X373.here hx rfl (hb hby at_62) rfl ?_
      show Steps p.tables e below (T373.setTop (mkF m 64 #[.val (.int p0), .val (.int p1), .val (.int p2), .val (.int p3), .val (.int ((p0 &&& (7 : Int32)) + (1 : Int32))), .val (.int ((p1 &&& (2147483647 : Int32)) % ((p0 &&& (7 : Int32)) + (1 : Int32)))), .val (.int ((p2 &&& (2147483647 : Int32)) % ((p0 &&& (7 : Int32)) + (1 : Int32)))), .val (.int (((p3.toUInt32 >>> ((1 : Int32) &&& 31).toUInt32).toInt32) &&& (255 : Int32))), .val (.int (1 : Int32)), .val (.ref b348), .val .null, .unset, .unset, .unset, .unset] [(.int (1 : Int32))])) _
      refine XS.ifNo X373.here hx rfl (hb hby at_64) rfl ((if0 _ _).trans (feq (by decide : ¬ ((1 : Int32) = (0 : Int32)))).1) ?_
      show Steps p.tables e below (T373.setTop (mkF m 67 #[.val (.int p0), .val (.int p1), .val (.int p2), .val (.int p3), .val (.int ((p0 &&& (7 : Int32)) + (1 : Int32))), .val (.int ((p1 &&& (2147483647 : Int32)) % ((p0 &&& (7 : Int32)) + (1 : Int32)))), .val (.int ((p2 &&& (2147483647 : Int32)) % ((p0 &&& (7 : Int32)) + (1 : Int32)))), .val (.int (((p3.toUInt32 >>> ((1 : Int32) &&& 31).toUInt32).toInt32) &&& (255 : Int32))), .val (.int (1 : Int32)), .val (.ref b348), .val .null, .unset, .unset, .unset, .unset] [])) _
      refine st375 _ ?_
      show Steps p.tables e below (T375.setTop (mkF m 70 #[.val (.int p0), .val (.int p1), .val (.int p2), .val (.int p3), .val (.int ((p0 &&& (7 : Int32)) + (1 : Int32))), .val (.int ((p1 &&& (2147483647 : Int32)) % ((p0 &&& (7 : Int32)) + (1 : Int32)))), .val (.int ((p2 &&& (2147483647 : Int32)) % ((p0 &&& (7 : Int32)) + (1 : Int32)))), .val (.int (((p3.toUInt32 >>> ((1 : Int32) &&& 31).toUInt32).toInt32) &&& (255 : Int32))), .val (.int (1 : Int32)), .val (.ref b348), .val .null, .unset, .unset, .unset, .unset] [(.ref b375)])) _
      refine XS.dup X375.here hx rfl (hb hby at_70) rfl rfl ?_
      show Steps p.tables e below (T375.setTop (mkF m 71 #[.val (.int p0), .val (.int p1), .val (.int p2), .val (.int p3), .val (.int ((p0 &&& (7 : Int32)) + (1 : Int32))), .val (.int ((p1 &&& (2147483647 : Int32)) % ((p0 &&& (7 : Int32)) + (1 : Int32)))), .val (.int ((p2 &&& (2147483647 : Int32)) % ((p0 &&& (7 : Int32)) + (1 : Int32)))), .val (.int (((p3.toUInt32 >>> ((1 : Int32) &&& 31).toUInt32).toInt32) &&& (255 : Int32))), .val (.int (1 : Int32)), .val (.ref b348), .val .null, .unset, .unset, .unset, .unset] [(.ref b375), (.ref b375)])) _
      refine st376.trans ?_
      show Steps p.tables e below (T376.setTop (mkF m 74 #[.val (.int p0), .val (.int p1), .val (.int p2), .val (.int p3), .val (.int ((p0 &&& (7 : Int32)) + (1 : Int32))), .val (.int ((p1 &&& (2147483647 : Int32)) % ((p0 &&& (7 : Int32)) + (1 : Int32)))), .val (.int ((p2 &&& (2147483647 : Int32)) % ((p0 &&& (7 : Int32)) + (1 : Int32)))), .val (.int (((p3.toUInt32 >>> ((1 : Int32) &&& 31).toUInt32).toInt32) &&& (255 : Int32))), .val (.int (1 : Int32)), .val (.ref b348), .val .null, .unset, .unset, .unset, .unset] [(.ref b375)])) _
      refine XS.astore X376.here hx rfl (hb hby at_74) rfl rfl (l' := #[.val (.int p0), .val (.int p1), .val (.int p2), .val (.int p3), .val (.int ((p0 &&& (7 : Int32)) + (1 : Int32))), .val (.int ((p1 &&& (2147483647 : Int32)) % ((p0 &&& (7 : Int32)) + (1 : Int32)))), .val (.int ((p2 &&& (2147483647 : Int32)) % ((p0 &&& (7 : Int32)) + (1 : Int32)))), .val (.int (((p3.toUInt32 >>> ((1 : Int32) &&& 31).toUInt32).toInt32) &&& (255 : Int32))), .val (.int (1 : Int32)), .val (.ref b348), .val (.ref b375), .unset, .unset, .unset, .unset]) rfl ?_
      show Steps p.tables e below (T376.setTop (mkF m 76 #[.val (.int p0), .val (.int p1), .val (.int p2), .val (.int p3), .val (.int ((p0 &&& (7 : Int32)) + (1 : Int32))), .val (.int ((p1 &&& (2147483647 : Int32)) % ((p0 &&& (7 : Int32)) + (1 : Int32)))), .val (.int ((p2 &&& (2147483647 : Int32)) % ((p0 &&& (7 : Int32)) + (1 : Int32)))), .val (.int (((p3.toUInt32 >>> ((1 : Int32) &&& 31).toUInt32).toInt32) &&& (255 : Int32))), .val (.int (1 : Int32)), .val (.ref b348), .val (.ref b375), .unset, .unset, .unset, .unset] [])) _
      refine XS.aload X376.here hx rfl (hb hby at_76) rfl rfl ?_
      show Steps p.tables e below (T376.setTop (mkF m 78 #[.val (.int p0), .val (.int p1), .val (.int p2), .val (.int p3), .val (.int ((p0 &&& (7 : Int32)) + (1 : Int32))), .val (.int ((p1 &&& (2147483647 : Int32)) % ((p0 &&& (7 : Int32)) + (1 : Int32)))), .val (.int ((p2 &&& (2147483647 : Int32)) % ((p0 &&& (7 : Int32)) + (1 : Int32)))), .val (.int (((p3.toUInt32 >>> ((1 : Int32) &&& 31).toUInt32).toInt32) &&& (255 : Int32))), .val (.int (1 : Int32)), .val (.ref b348), .val (.ref b375), .unset, .unset, .unset, .unset] [(.ref b348)])) _
      refine st384 _ ?_
      show Steps p.tables e below (T384.setTop (mkF m 81 #[.val (.int p0), .val (.int p1), .val (.int p2), .val (.int p3), .val (.int ((p0 &&& (7 : Int32)) + (1 : Int32))), .val (.int ((p1 &&& (2147483647 : Int32)) % ((p0 &&& (7 : Int32)) + (1 : Int32)))), .val (.int ((p2 &&& (2147483647 : Int32)) % ((p0 &&& (7 : Int32)) + (1 : Int32)))), .val (.int (((p3.toUInt32 >>> ((1 : Int32) &&& 31).toUInt32).toInt32) &&& (255 : Int32))), .val (.int (1 : Int32)), .val (.ref b348), .val (.ref b375), .unset, .unset, .unset, .unset] [(.ref b68_373)])) _
      refine XS.iload X384.here hx rfl (hb hby at_81) rfl ?_
      show Steps p.tables e below (T384.setTop (mkF m 83 #[.val (.int p0), .val (.int p1), .val (.int p2), .val (.int p3), .val (.int ((p0 &&& (7 : Int32)) + (1 : Int32))), .val (.int ((p1 &&& (2147483647 : Int32)) % ((p0 &&& (7 : Int32)) + (1 : Int32)))), .val (.int ((p2 &&& (2147483647 : Int32)) % ((p0 &&& (7 : Int32)) + (1 : Int32)))), .val (.int (((p3.toUInt32 >>> ((1 : Int32) &&& 31).toUInt32).toInt32) &&& (255 : Int32))), .val (.int (1 : Int32)), .val (.ref b348), .val (.ref b375), .unset, .unset, .unset, .unset] [(.int ((p1 &&& (2147483647 : Int32)) % ((p0 &&& (7 : Int32)) + (1 : Int32)))), (.ref b68_373)])) _
      refine XS.aload X384.here hx rfl (hb hby at_83) rfl rfl ?_
      show Steps p.tables e below (T384.setTop (mkF m 85 #[.val (.int p0), .val (.int p1), .val (.int p2), .val (.int p3), .val (.int ((p0 &&& (7 : Int32)) + (1 : Int32))), .val (.int ((p1 &&& (2147483647 : Int32)) % ((p0 &&& (7 : Int32)) + (1 : Int32)))), .val (.int ((p2 &&& (2147483647 : Int32)) % ((p0 &&& (7 : Int32)) + (1 : Int32)))), .val (.int (((p3.toUInt32 >>> ((1 : Int32) &&& 31).toUInt32).toInt32) &&& (255 : Int32))), .val (.int (1 : Int32)), .val (.ref b348), .val (.ref b375), .unset, .unset, .unset, .unset] [(.ref b375), (.int ((p1 &&& (2147483647 : Int32)) % ((p0 &&& (7 : Int32)) + (1 : Int32)))), (.ref b68_373)])) _
      refine st388 _ ?_
      show Steps p.tables e below (T388.setTop (mkF m 86 #[.val (.int p0), .val (.int p1), .val (.int p2), .val (.int p3), .val (.int ((p0 &&& (7 : Int32)) + (1 : Int32))), .val (.int ((p1 &&& (2147483647 : Int32)) % ((p0 &&& (7 : Int32)) + (1 : Int32)))), .val (.int ((p2 &&& (2147483647 : Int32)) % ((p0 &&& (7 : Int32)) + (1 : Int32)))), .val (.int (((p3.toUInt32 >>> ((1 : Int32) &&& 31).toUInt32).toInt32) &&& (255 : Int32))), .val (.int (1 : Int32)), .val (.ref b348), .val (.ref b375), .unset, .unset, .unset, .unset] [])) _
      refine XS.aload X388.here hx rfl (hb hby at_86) rfl rfl ?_
      show Steps p.tables e below (T388.setTop (mkF m 88 #[.val (.int p0), .val (.int p1), .val (.int p2), .val (.int p3), .val (.int ((p0 &&& (7 : Int32)) + (1 : Int32))), .val (.int ((p1 &&& (2147483647 : Int32)) % ((p0 &&& (7 : Int32)) + (1 : Int32)))), .val (.int ((p2 &&& (2147483647 : Int32)) % ((p0 &&& (7 : Int32)) + (1 : Int32)))), .val (.int (((p3.toUInt32 >>> ((1 : Int32) &&& 31).toUInt32).toInt32) &&& (255 : Int32))), .val (.int (1 : Int32)), .val (.ref b348), .val (.ref b375), .unset, .unset, .unset, .unset] [(.ref b348)])) _
      refine XS.iload X388.here hx rfl (hb hby at_88) rfl ?_
      show Steps p.tables e below (T388.setTop (mkF m 90 #[.val (.int p0), .val (.int p1), .val (.int p2), .val (.int p3), .val (.int ((p0 &&& (7 : Int32)) + (1 : Int32))), .val (.int ((p1 &&& (2147483647 : Int32)) % ((p0 &&& (7 : Int32)) + (1 : Int32)))), .val (.int ((p2 &&& (2147483647 : Int32)) % ((p0 &&& (7 : Int32)) + (1 : Int32)))), .val (.int (((p3.toUInt32 >>> ((1 : Int32) &&& 31).toUInt32).toInt32) &&& (255 : Int32))), .val (.int (1 : Int32)), .val (.ref b348), .val (.ref b375), .unset, .unset, .unset, .unset] [(.int ((p1 &&& (2147483647 : Int32)) % ((p0 &&& (7 : Int32)) + (1 : Int32)))), (.ref b348)])) _
      refine st409.trans ?_
      show Steps p.tables e below (T409.setTop (mkF m 93 #[.val (.int p0), .val (.int p1), .val (.int p2), .val (.int p3), .val (.int ((p0 &&& (7 : Int32)) + (1 : Int32))), .val (.int ((p1 &&& (2147483647 : Int32)) % ((p0 &&& (7 : Int32)) + (1 : Int32)))), .val (.int ((p2 &&& (2147483647 : Int32)) % ((p0 &&& (7 : Int32)) + (1 : Int32)))), .val (.int (((p3.toUInt32 >>> ((1 : Int32) &&& 31).toUInt32).toInt32) &&& (255 : Int32))), .val (.int (1 : Int32)), .val (.ref b348), .val (.ref b375), .unset, .unset, .unset, .unset] [(.ref b375)])) _
      refine XS.astore X409.here hx rfl (hb hby at_93) rfl rfl (l' := #[.val (.int p0), .val (.int p1), .val (.int p2), .val (.int p3), .val (.int ((p0 &&& (7 : Int32)) + (1 : Int32))), .val (.int ((p1 &&& (2147483647 : Int32)) % ((p0 &&& (7 : Int32)) + (1 : Int32)))), .val (.int ((p2 &&& (2147483647 : Int32)) % ((p0 &&& (7 : Int32)) + (1 : Int32)))), .val (.int (((p3.toUInt32 >>> ((1 : Int32) &&& 31).toUInt32).toInt32) &&& (255 : Int32))), .val (.int (1 : Int32)), .val (.ref b348), .val (.ref b375), .val (.ref b375), .unset, .unset, .unset]) rfl ?_
      show Steps p.tables e below (T409.setTop (mkF m 95 #[.val (.int p0), .val (.int p1), .val (.int p2), .val (.int p3), .val (.int ((p0 &&& (7 : Int32)) + (1 : Int32))), .val (.int ((p1 &&& (2147483647 : Int32)) % ((p0 &&& (7 : Int32)) + (1 : Int32)))), .val (.int ((p2 &&& (2147483647 : Int32)) % ((p0 &&& (7 : Int32)) + (1 : Int32)))), .val (.int (((p3.toUInt32 >>> ((1 : Int32) &&& 31).toUInt32).toInt32) &&& (255 : Int32))), .val (.int (1 : Int32)), .val (.ref b348), .val (.ref b375), .val (.ref b375), .unset, .unset, .unset] [])) _
      refine XS.aload X409.here hx rfl (hb hby at_95) rfl rfl ?_
      show Steps p.tables e below (T409.setTop (mkF m 97 #[.val (.int p0), .val (.int p1), .val (.int p2), .val (.int p3), .val (.int ((p0 &&& (7 : Int32)) + (1 : Int32))), .val (.int ((p1 &&& (2147483647 : Int32)) % ((p0 &&& (7 : Int32)) + (1 : Int32)))), .val (.int ((p2 &&& (2147483647 : Int32)) % ((p0 &&& (7 : Int32)) + (1 : Int32)))), .val (.int (((p3.toUInt32 >>> ((1 : Int32) &&& 31).toUInt32).toInt32) &&& (255 : Int32))), .val (.int (1 : Int32)), .val (.ref b348), .val (.ref b375), .val (.ref b375), .unset, .unset, .unset] [(.ref b375)])) _
      refine XS.ifnullNo X409.here hx rfl (hb hby at_97) rfl ?_
      show Steps p.tables e below (T409.setTop (mkF m 100 #[.val (.int p0), .val (.int p1), .val (.int p2), .val (.int p3), .val (.int ((p0 &&& (7 : Int32)) + (1 : Int32))), .val (.int ((p1 &&& (2147483647 : Int32)) % ((p0 &&& (7 : Int32)) + (1 : Int32)))), .val (.int ((p2 &&& (2147483647 : Int32)) % ((p0 &&& (7 : Int32)) + (1 : Int32)))), .val (.int (((p3.toUInt32 >>> ((1 : Int32) &&& 31).toUInt32).toInt32) &&& (255 : Int32))), .val (.int (1 : Int32)), .val (.ref b348), .val (.ref b375), .val (.ref b375), .unset, .unset, .unset] [])) _
      refine XS.aload X409.here hx rfl (hb hby at_100) rfl rfl ?_
      show Steps p.tables e below (T409.setTop (mkF m 102 #[.val (.int p0), .val (.int p1), .val (.int p2), .val (.int p3), .val (.int ((p0 &&& (7 : Int32)) + (1 : Int32))), .val (.int ((p1 &&& (2147483647 : Int32)) % ((p0 &&& (7 : Int32)) + (1 : Int32)))), .val (.int ((p2 &&& (2147483647 : Int32)) % ((p0 &&& (7 : Int32)) + (1 : Int32)))), .val (.int (((p3.toUInt32 >>> ((1 : Int32) &&& 31).toUInt32).toInt32) &&& (255 : Int32))), .val (.int (1 : Int32)), .val (.ref b348), .val (.ref b375), .val (.ref b375), .unset, .unset, .unset] [(.ref b348)])) _
      refine st411 _ ?_
      show Steps p.tables e below (T411.setTop (mkF m 105 #[.val (.int p0), .val (.int p1), .val (.int p2), .val (.int p3), .val (.int ((p0 &&& (7 : Int32)) + (1 : Int32))), .val (.int ((p1 &&& (2147483647 : Int32)) % ((p0 &&& (7 : Int32)) + (1 : Int32)))), .val (.int ((p2 &&& (2147483647 : Int32)) % ((p0 &&& (7 : Int32)) + (1 : Int32)))), .val (.int (((p3.toUInt32 >>> ((1 : Int32) &&& 31).toUInt32).toInt32) &&& (255 : Int32))), .val (.int (1 : Int32)), .val (.ref b348), .val (.ref b375), .val (.ref b375), .unset, .unset, .unset] [(.ref b68_373)])) _
      refine X411.arraylength hx (by rw [e411]; exact Ar413.1) (State.isArrayOf_alike hZ.alike Ar413.2.1) (g := (mkF m 105 #[.val (.int p0), .val (.int p1), .val (.int p2), .val (.int p3), .val (.int ((p0 &&& (7 : Int32)) + (1 : Int32))), .val (.int ((p1 &&& (2147483647 : Int32)) % ((p0 &&& (7 : Int32)) + (1 : Int32)))), .val (.int ((p2 &&& (2147483647 : Int32)) % ((p0 &&& (7 : Int32)) + (1 : Int32)))), .val (.int (((p3.toUInt32 >>> ((1 : Int32) &&& 31).toUInt32).toInt32) &&& (255 : Int32))), .val (.int (1 : Int32)), .val (.ref b348), .val (.ref b375), .val (.ref b375), .unset, .unset, .unset] [(.ref b68_373)])) rfl rfl (hb hby at_105) _ ?_
      rw [len_of Sa413 Ma413]
      show Steps p.tables e below (T411.setTop (mkF m 106 #[.val (.int p0), .val (.int p1), .val (.int p2), .val (.int p3), .val (.int ((p0 &&& (7 : Int32)) + (1 : Int32))), .val (.int ((p1 &&& (2147483647 : Int32)) % ((p0 &&& (7 : Int32)) + (1 : Int32)))), .val (.int ((p2 &&& (2147483647 : Int32)) % ((p0 &&& (7 : Int32)) + (1 : Int32)))), .val (.int (((p3.toUInt32 >>> ((1 : Int32) &&& 31).toUInt32).toInt32) &&& (255 : Int32))), .val (.int (1 : Int32)), .val (.ref b348), .val (.ref b375), .val (.ref b375), .unset, .unset, .unset] [(.int ((p0 &&& (7 : Int32)) + (1 : Int32)))])) _
      refine XS.iload X411.here hx rfl (hb hby at_106) rfl ?_
      show Steps p.tables e below (T411.setTop (mkF m 108 #[.val (.int p0), .val (.int p1), .val (.int p2), .val (.int p3), .val (.int ((p0 &&& (7 : Int32)) + (1 : Int32))), .val (.int ((p1 &&& (2147483647 : Int32)) % ((p0 &&& (7 : Int32)) + (1 : Int32)))), .val (.int ((p2 &&& (2147483647 : Int32)) % ((p0 &&& (7 : Int32)) + (1 : Int32)))), .val (.int (((p3.toUInt32 >>> ((1 : Int32) &&& 31).toUInt32).toInt32) &&& (255 : Int32))), .val (.int (1 : Int32)), .val (.ref b348), .val (.ref b375), .val (.ref b375), .unset, .unset, .unset] [(.int ((p0 &&& (7 : Int32)) + (1 : Int32))), (.int ((p0 &&& (7 : Int32)) + (1 : Int32)))])) _
      refine XS.icmpNo X411.here hx rfl (hb hby at_108) rfl (teq rfl).2 ?_
      show Steps p.tables e below (T411.setTop (mkF m 111 #[.val (.int p0), .val (.int p1), .val (.int p2), .val (.int p3), .val (.int ((p0 &&& (7 : Int32)) + (1 : Int32))), .val (.int ((p1 &&& (2147483647 : Int32)) % ((p0 &&& (7 : Int32)) + (1 : Int32)))), .val (.int ((p2 &&& (2147483647 : Int32)) % ((p0 &&& (7 : Int32)) + (1 : Int32)))), .val (.int (((p3.toUInt32 >>> ((1 : Int32) &&& 31).toUInt32).toInt32) &&& (255 : Int32))), .val (.int (1 : Int32)), .val (.ref b348), .val (.ref b375), .val (.ref b375), .unset, .unset, .unset] [])) _
      refine XS.aload X411.here hx rfl (hb hby at_111) rfl rfl ?_
      show Steps p.tables e below (T411.setTop (mkF m 113 #[.val (.int p0), .val (.int p1), .val (.int p2), .val (.int p3), .val (.int ((p0 &&& (7 : Int32)) + (1 : Int32))), .val (.int ((p1 &&& (2147483647 : Int32)) % ((p0 &&& (7 : Int32)) + (1 : Int32)))), .val (.int ((p2 &&& (2147483647 : Int32)) % ((p0 &&& (7 : Int32)) + (1 : Int32)))), .val (.int (((p3.toUInt32 >>> ((1 : Int32) &&& 31).toUInt32).toInt32) &&& (255 : Int32))), .val (.int (1 : Int32)), .val (.ref b348), .val (.ref b375), .val (.ref b375), .unset, .unset, .unset] [(.ref b348)])) _
      refine st414 _ ?_
      show Steps p.tables e below (T414.setTop (mkF m 116 #[.val (.int p0), .val (.int p1), .val (.int p2), .val (.int p3), .val (.int ((p0 &&& (7 : Int32)) + (1 : Int32))), .val (.int ((p1 &&& (2147483647 : Int32)) % ((p0 &&& (7 : Int32)) + (1 : Int32)))), .val (.int ((p2 &&& (2147483647 : Int32)) % ((p0 &&& (7 : Int32)) + (1 : Int32)))), .val (.int (((p3.toUInt32 >>> ((1 : Int32) &&& 31).toUInt32).toInt32) &&& (255 : Int32))), .val (.int (1 : Int32)), .val (.ref b348), .val (.ref b375), .val (.ref b375), .unset, .unset, .unset] [(.ref b68_373)])) _
      refine XS.iload X414.here hx rfl (hb hby at_116) rfl ?_
      show Steps p.tables e below (T414.setTop (mkF m 118 #[.val (.int p0), .val (.int p1), .val (.int p2), .val (.int p3), .val (.int ((p0 &&& (7 : Int32)) + (1 : Int32))), .val (.int ((p1 &&& (2147483647 : Int32)) % ((p0 &&& (7 : Int32)) + (1 : Int32)))), .val (.int ((p2 &&& (2147483647 : Int32)) % ((p0 &&& (7 : Int32)) + (1 : Int32)))), .val (.int (((p3.toUInt32 >>> ((1 : Int32) &&& 31).toUInt32).toInt32) &&& (255 : Int32))), .val (.int (1 : Int32)), .val (.ref b348), .val (.ref b375), .val (.ref b375), .unset, .unset, .unset] [(.int ((p1 &&& (2147483647 : Int32)) % ((p0 &&& (7 : Int32)) + (1 : Int32)))), (.ref b68_373)])) _
      refine X414.aaload hx (j := ((p1 &&& (2147483647 : Int32)) % ((p0 &&& (7 : Int32)) + (1 : Int32)))) (v := (.ref b375)) (by rw [e414]; exact Ar415.1) (State.isArrayOf_alike hZ.alike Ar415.2.1) rfl Ar415.2.2 hin415 hat415 (g := (mkF m 118 #[.val (.int p0), .val (.int p1), .val (.int p2), .val (.int p3), .val (.int ((p0 &&& (7 : Int32)) + (1 : Int32))), .val (.int ((p1 &&& (2147483647 : Int32)) % ((p0 &&& (7 : Int32)) + (1 : Int32)))), .val (.int ((p2 &&& (2147483647 : Int32)) % ((p0 &&& (7 : Int32)) + (1 : Int32)))), .val (.int (((p3.toUInt32 >>> ((1 : Int32) &&& 31).toUInt32).toInt32) &&& (255 : Int32))), .val (.int (1 : Int32)), .val (.ref b348), .val (.ref b375), .val (.ref b375), .unset, .unset, .unset] [(.int ((p1 &&& (2147483647 : Int32)) % ((p0 &&& (7 : Int32)) + (1 : Int32)))), (.ref b68_373)])) rfl rfl (hb hby at_118) _ ?_
      show Steps p.tables e below (T414.setTop (mkF m 119 #[.val (.int p0), .val (.int p1), .val (.int p2), .val (.int p3), .val (.int ((p0 &&& (7 : Int32)) + (1 : Int32))), .val (.int ((p1 &&& (2147483647 : Int32)) % ((p0 &&& (7 : Int32)) + (1 : Int32)))), .val (.int ((p2 &&& (2147483647 : Int32)) % ((p0 &&& (7 : Int32)) + (1 : Int32)))), .val (.int (((p3.toUInt32 >>> ((1 : Int32) &&& 31).toUInt32).toInt32) &&& (255 : Int32))), .val (.int (1 : Int32)), .val (.ref b348), .val (.ref b375), .val (.ref b375), .unset, .unset, .unset] [(.ref b375)])) _
      refine XS.aload X414.here hx rfl (hb hby at_119) rfl rfl ?_
      show Steps p.tables e below (T414.setTop (mkF m 121 #[.val (.int p0), .val (.int p1), .val (.int p2), .val (.int p3), .val (.int ((p0 &&& (7 : Int32)) + (1 : Int32))), .val (.int ((p1 &&& (2147483647 : Int32)) % ((p0 &&& (7 : Int32)) + (1 : Int32)))), .val (.int ((p2 &&& (2147483647 : Int32)) % ((p0 &&& (7 : Int32)) + (1 : Int32)))), .val (.int (((p3.toUInt32 >>> ((1 : Int32) &&& 31).toUInt32).toInt32) &&& (255 : Int32))), .val (.int (1 : Int32)), .val (.ref b348), .val (.ref b375), .val (.ref b375), .unset, .unset, .unset] [(.ref b375), (.ref b375)])) _
      refine Jvm.RoadKit.acmp (g := (mkF m 121 #[.val (.int p0), .val (.int p1), .val (.int p2), .val (.int p3), .val (.int ((p0 &&& (7 : Int32)) + (1 : Int32))), .val (.int ((p1 &&& (2147483647 : Int32)) % ((p0 &&& (7 : Int32)) + (1 : Int32)))), .val (.int ((p2 &&& (2147483647 : Int32)) % ((p0 &&& (7 : Int32)) + (1 : Int32)))), .val (.int (((p3.toUInt32 >>> ((1 : Int32) &&& 31).toUInt32).toInt32) &&& (255 : Int32))), .val (.int (1 : Int32)), .val (.ref b348), .val (.ref b375), .val (.ref b375), .unset, .unset, .unset] [(.ref b375), (.ref b375)])) X414 hx rfl rfl rfl (pc0 := 121) (pc' := 124) (same := true) rfl (hb hby at_121) rfl (decide_eq_true (congrArg Value.ref rfl)) (by decide) (by decide) ?_
      show Steps p.tables e below (T414.setTop (mkF m 124 #[.val (.int p0), .val (.int p1), .val (.int p2), .val (.int p3), .val (.int ((p0 &&& (7 : Int32)) + (1 : Int32))), .val (.int ((p1 &&& (2147483647 : Int32)) % ((p0 &&& (7 : Int32)) + (1 : Int32)))), .val (.int ((p2 &&& (2147483647 : Int32)) % ((p0 &&& (7 : Int32)) + (1 : Int32)))), .val (.int (((p3.toUInt32 >>> ((1 : Int32) &&& 31).toUInt32).toInt32) &&& (255 : Int32))), .val (.int (1 : Int32)), .val (.ref b348), .val (.ref b375), .val (.ref b375), .unset, .unset, .unset] [])) _
      refine XS.iconst X414.here hx rfl (hb hby at_124) ?_
      show Steps p.tables e below (T414.setTop (mkF m 125 #[.val (.int p0), .val (.int p1), .val (.int p2), .val (.int p3), .val (.int ((p0 &&& (7 : Int32)) + (1 : Int32))), .val (.int ((p1 &&& (2147483647 : Int32)) % ((p0 &&& (7 : Int32)) + (1 : Int32)))), .val (.int ((p2 &&& (2147483647 : Int32)) % ((p0 &&& (7 : Int32)) + (1 : Int32)))), .val (.int (((p3.toUInt32 >>> ((1 : Int32) &&& 31).toUInt32).toInt32) &&& (255 : Int32))), .val (.int (1 : Int32)), .val (.ref b348), .val (.ref b375), .val (.ref b375), .unset, .unset, .unset] [(.int (1 : Int32))])) _
      refine XS.goto X414.here hx rfl (pc0 := 125) (pc' := 129) rfl (hb hby at_125) (by decide) (by decide) ?_
      show Steps p.tables e below (T414.setTop (mkF m 129 #[.val (.int p0), .val (.int p1), .val (.int p2), .val (.int p3), .val (.int ((p0 &&& (7 : Int32)) + (1 : Int32))), .val (.int ((p1 &&& (2147483647 : Int32)) % ((p0 &&& (7 : Int32)) + (1 : Int32)))), .val (.int ((p2 &&& (2147483647 : Int32)) % ((p0 &&& (7 : Int32)) + (1 : Int32)))), .val (.int (((p3.toUInt32 >>> ((1 : Int32) &&& 31).toUInt32).toInt32) &&& (255 : Int32))), .val (.int (1 : Int32)), .val (.ref b348), .val (.ref b375), .val (.ref b375), .unset, .unset, .unset] [(.int (1 : Int32))])) _
      refine XS.istore X414.here hx rfl (hb hby at_129) rfl (l' := #[.val (.int p0), .val (.int p1), .val (.int p2), .val (.int p3), .val (.int ((p0 &&& (7 : Int32)) + (1 : Int32))), .val (.int ((p1 &&& (2147483647 : Int32)) % ((p0 &&& (7 : Int32)) + (1 : Int32)))), .val (.int ((p2 &&& (2147483647 : Int32)) % ((p0 &&& (7 : Int32)) + (1 : Int32)))), .val (.int (((p3.toUInt32 >>> ((1 : Int32) &&& 31).toUInt32).toInt32) &&& (255 : Int32))), .val (.int (1 : Int32)), .val (.ref b348), .val (.ref b375), .val (.ref b375), .val (.int (1 : Int32)), .unset, .unset]) rfl ?_
      show Steps p.tables e below (T414.setTop (mkF m 131 #[.val (.int p0), .val (.int p1), .val (.int p2), .val (.int p3), .val (.int ((p0 &&& (7 : Int32)) + (1 : Int32))), .val (.int ((p1 &&& (2147483647 : Int32)) % ((p0 &&& (7 : Int32)) + (1 : Int32)))), .val (.int ((p2 &&& (2147483647 : Int32)) % ((p0 &&& (7 : Int32)) + (1 : Int32)))), .val (.int (((p3.toUInt32 >>> ((1 : Int32) &&& 31).toUInt32).toInt32) &&& (255 : Int32))), .val (.int (1 : Int32)), .val (.ref b348), .val (.ref b375), .val (.ref b375), .val (.int (1 : Int32)), .unset, .unset] [])) _
      refine XS.iload X414.here hx rfl (hb hby at_131) rfl ?_
      show Steps p.tables e below (T414.setTop (mkF m 133 #[.val (.int p0), .val (.int p1), .val (.int p2), .val (.int p3), .val (.int ((p0 &&& (7 : Int32)) + (1 : Int32))), .val (.int ((p1 &&& (2147483647 : Int32)) % ((p0 &&& (7 : Int32)) + (1 : Int32)))), .val (.int ((p2 &&& (2147483647 : Int32)) % ((p0 &&& (7 : Int32)) + (1 : Int32)))), .val (.int (((p3.toUInt32 >>> ((1 : Int32) &&& 31).toUInt32).toInt32) &&& (255 : Int32))), .val (.int (1 : Int32)), .val (.ref b348), .val (.ref b375), .val (.ref b375), .val (.int (1 : Int32)), .unset, .unset] [(.int (1 : Int32))])) _
      refine XS.ifNo X414.here hx rfl (hb hby at_133) rfl ((if0 _ _).trans (feq (by decide : ¬ ((1 : Int32) = (0 : Int32)))).1) ?_
      show Steps p.tables e below (T414.setTop (mkF m 136 #[.val (.int p0), .val (.int p1), .val (.int p2), .val (.int p3), .val (.int ((p0 &&& (7 : Int32)) + (1 : Int32))), .val (.int ((p1 &&& (2147483647 : Int32)) % ((p0 &&& (7 : Int32)) + (1 : Int32)))), .val (.int ((p2 &&& (2147483647 : Int32)) % ((p0 &&& (7 : Int32)) + (1 : Int32)))), .val (.int (((p3.toUInt32 >>> ((1 : Int32) &&& 31).toUInt32).toInt32) &&& (255 : Int32))), .val (.int (1 : Int32)), .val (.ref b348), .val (.ref b375), .val (.ref b375), .val (.int (1 : Int32)), .unset, .unset] [])) _
      refine XS.iload X414.here hx rfl (hb hby at_136) rfl ?_
      show Steps p.tables e below (T414.setTop (mkF m 138 #[.val (.int p0), .val (.int p1), .val (.int p2), .val (.int p3), .val (.int ((p0 &&& (7 : Int32)) + (1 : Int32))), .val (.int ((p1 &&& (2147483647 : Int32)) % ((p0 &&& (7 : Int32)) + (1 : Int32)))), .val (.int ((p2 &&& (2147483647 : Int32)) % ((p0 &&& (7 : Int32)) + (1 : Int32)))), .val (.int (((p3.toUInt32 >>> ((1 : Int32) &&& 31).toUInt32).toInt32) &&& (255 : Int32))), .val (.int (1 : Int32)), .val (.ref b348), .val (.ref b375), .val (.ref b375), .val (.int (1 : Int32)), .unset, .unset] [(.int (1 : Int32))])) _
      refine XS.ifNo X414.here hx rfl (hb hby at_138) rfl ((if0 _ _).trans (feq (by decide : ¬ ((1 : Int32) = (0 : Int32)))).1) ?_
      show Steps p.tables e below (T414.setTop (mkF m 141 #[.val (.int p0), .val (.int p1), .val (.int p2), .val (.int p3), .val (.int ((p0 &&& (7 : Int32)) + (1 : Int32))), .val (.int ((p1 &&& (2147483647 : Int32)) % ((p0 &&& (7 : Int32)) + (1 : Int32)))), .val (.int ((p2 &&& (2147483647 : Int32)) % ((p0 &&& (7 : Int32)) + (1 : Int32)))), .val (.int (((p3.toUInt32 >>> ((1 : Int32) &&& 31).toUInt32).toInt32) &&& (255 : Int32))), .val (.int (1 : Int32)), .val (.ref b348), .val (.ref b375), .val (.ref b375), .val (.int (1 : Int32)), .unset, .unset] [])) _
      refine XS.aload X414.here hx rfl (hb hby at_141) rfl rfl ?_
      show Steps p.tables e below (T414.setTop (mkF m 143 #[.val (.int p0), .val (.int p1), .val (.int p2), .val (.int p3), .val (.int ((p0 &&& (7 : Int32)) + (1 : Int32))), .val (.int ((p1 &&& (2147483647 : Int32)) % ((p0 &&& (7 : Int32)) + (1 : Int32)))), .val (.int ((p2 &&& (2147483647 : Int32)) % ((p0 &&& (7 : Int32)) + (1 : Int32)))), .val (.int (((p3.toUInt32 >>> ((1 : Int32) &&& 31).toUInt32).toInt32) &&& (255 : Int32))), .val (.int (1 : Int32)), .val (.ref b348), .val (.ref b375), .val (.ref b375), .val (.int (1 : Int32)), .unset, .unset] [(.ref b375)])) _
      refine XS.aload X414.here hx rfl (hb hby at_143) rfl rfl ?_
      show Steps p.tables e below (T414.setTop (mkF m 145 #[.val (.int p0), .val (.int p1), .val (.int p2), .val (.int p3), .val (.int ((p0 &&& (7 : Int32)) + (1 : Int32))), .val (.int ((p1 &&& (2147483647 : Int32)) % ((p0 &&& (7 : Int32)) + (1 : Int32)))), .val (.int ((p2 &&& (2147483647 : Int32)) % ((p0 &&& (7 : Int32)) + (1 : Int32)))), .val (.int (((p3.toUInt32 >>> ((1 : Int32) &&& 31).toUInt32).toInt32) &&& (255 : Int32))), .val (.int (1 : Int32)), .val (.ref b348), .val (.ref b375), .val (.ref b375), .val (.int (1 : Int32)), .unset, .unset] [(.ref b375), (.ref b375)])) _
      refine Jvm.RoadKit.acmp (g := (mkF m 145 #[.val (.int p0), .val (.int p1), .val (.int p2), .val (.int p3), .val (.int ((p0 &&& (7 : Int32)) + (1 : Int32))), .val (.int ((p1 &&& (2147483647 : Int32)) % ((p0 &&& (7 : Int32)) + (1 : Int32)))), .val (.int ((p2 &&& (2147483647 : Int32)) % ((p0 &&& (7 : Int32)) + (1 : Int32)))), .val (.int (((p3.toUInt32 >>> ((1 : Int32) &&& 31).toUInt32).toInt32) &&& (255 : Int32))), .val (.int (1 : Int32)), .val (.ref b348), .val (.ref b375), .val (.ref b375), .val (.int (1 : Int32)), .unset, .unset] [(.ref b375), (.ref b375)])) X414 hx rfl rfl rfl (pc0 := 145) (pc' := 148) (same := true) rfl (hb hby at_145) rfl (decide_eq_true (congrArg Value.ref rfl)) (by decide) (by decide) ?_
      show Steps p.tables e below (T414.setTop (mkF m 148 #[.val (.int p0), .val (.int p1), .val (.int p2), .val (.int p3), .val (.int ((p0 &&& (7 : Int32)) + (1 : Int32))), .val (.int ((p1 &&& (2147483647 : Int32)) % ((p0 &&& (7 : Int32)) + (1 : Int32)))), .val (.int ((p2 &&& (2147483647 : Int32)) % ((p0 &&& (7 : Int32)) + (1 : Int32)))), .val (.int (((p3.toUInt32 >>> ((1 : Int32) &&& 31).toUInt32).toInt32) &&& (255 : Int32))), .val (.int (1 : Int32)), .val (.ref b348), .val (.ref b375), .val (.ref b375), .val (.int (1 : Int32)), .unset, .unset] [])) _
      refine XS.iconst X414.here hx rfl (hb hby at_148) ?_
      show Steps p.tables e below (T414.setTop (mkF m 149 #[.val (.int p0), .val (.int p1), .val (.int p2), .val (.int p3), .val (.int ((p0 &&& (7 : Int32)) + (1 : Int32))), .val (.int ((p1 &&& (2147483647 : Int32)) % ((p0 &&& (7 : Int32)) + (1 : Int32)))), .val (.int ((p2 &&& (2147483647 : Int32)) % ((p0 &&& (7 : Int32)) + (1 : Int32)))), .val (.int (((p3.toUInt32 >>> ((1 : Int32) &&& 31).toUInt32).toInt32) &&& (255 : Int32))), .val (.int (1 : Int32)), .val (.ref b348), .val (.ref b375), .val (.ref b375), .val (.int (1 : Int32)), .unset, .unset] [(.int (1 : Int32))])) _
      refine XS.goto X414.here hx rfl (pc0 := 149) (pc' := 153) rfl (hb hby at_149) (by decide) (by decide) ?_
      show Steps p.tables e below (T414.setTop (mkF m 153 #[.val (.int p0), .val (.int p1), .val (.int p2), .val (.int p3), .val (.int ((p0 &&& (7 : Int32)) + (1 : Int32))), .val (.int ((p1 &&& (2147483647 : Int32)) % ((p0 &&& (7 : Int32)) + (1 : Int32)))), .val (.int ((p2 &&& (2147483647 : Int32)) % ((p0 &&& (7 : Int32)) + (1 : Int32)))), .val (.int (((p3.toUInt32 >>> ((1 : Int32) &&& 31).toUInt32).toInt32) &&& (255 : Int32))), .val (.int (1 : Int32)), .val (.ref b348), .val (.ref b375), .val (.ref b375), .val (.int (1 : Int32)), .unset, .unset] [(.int (1 : Int32))])) _
      refine XS.istore X414.here hx rfl (hb hby at_153) rfl (l' := #[.val (.int p0), .val (.int p1), .val (.int p2), .val (.int p3), .val (.int ((p0 &&& (7 : Int32)) + (1 : Int32))), .val (.int ((p1 &&& (2147483647 : Int32)) % ((p0 &&& (7 : Int32)) + (1 : Int32)))), .val (.int ((p2 &&& (2147483647 : Int32)) % ((p0 &&& (7 : Int32)) + (1 : Int32)))), .val (.int (((p3.toUInt32 >>> ((1 : Int32) &&& 31).toUInt32).toInt32) &&& (255 : Int32))), .val (.int (1 : Int32)), .val (.ref b348), .val (.ref b375), .val (.ref b375), .val (.int (1 : Int32)), .unset, .unset]) rfl ?_
      show Steps p.tables e below (T414.setTop (mkF m 155 #[.val (.int p0), .val (.int p1), .val (.int p2), .val (.int p3), .val (.int ((p0 &&& (7 : Int32)) + (1 : Int32))), .val (.int ((p1 &&& (2147483647 : Int32)) % ((p0 &&& (7 : Int32)) + (1 : Int32)))), .val (.int ((p2 &&& (2147483647 : Int32)) % ((p0 &&& (7 : Int32)) + (1 : Int32)))), .val (.int (((p3.toUInt32 >>> ((1 : Int32) &&& 31).toUInt32).toInt32) &&& (255 : Int32))), .val (.int (1 : Int32)), .val (.ref b348), .val (.ref b375), .val (.ref b375), .val (.int (1 : Int32)), .unset, .unset] [])) _
      refine XS.aload X414.here hx rfl (hb hby at_155) rfl rfl ?_
      show Steps p.tables e below (T414.setTop (mkF m 157 #[.val (.int p0), .val (.int p1), .val (.int p2), .val (.int p3), .val (.int ((p0 &&& (7 : Int32)) + (1 : Int32))), .val (.int ((p1 &&& (2147483647 : Int32)) % ((p0 &&& (7 : Int32)) + (1 : Int32)))), .val (.int ((p2 &&& (2147483647 : Int32)) % ((p0 &&& (7 : Int32)) + (1 : Int32)))), .val (.int (((p3.toUInt32 >>> ((1 : Int32) &&& 31).toUInt32).toInt32) &&& (255 : Int32))), .val (.int (1 : Int32)), .val (.ref b348), .val (.ref b375), .val (.ref b375), .val (.int (1 : Int32)), .unset, .unset] [(.ref b348)])) _
      refine XS.iload X414.here hx rfl (hb hby at_157) rfl ?_
      show Steps p.tables e below (T414.setTop (mkF m 159 #[.val (.int p0), .val (.int p1), .val (.int p2), .val (.int p3), .val (.int ((p0 &&& (7 : Int32)) + (1 : Int32))), .val (.int ((p1 &&& (2147483647 : Int32)) % ((p0 &&& (7 : Int32)) + (1 : Int32)))), .val (.int ((p2 &&& (2147483647 : Int32)) % ((p0 &&& (7 : Int32)) + (1 : Int32)))), .val (.int (((p3.toUInt32 >>> ((1 : Int32) &&& 31).toUInt32).toInt32) &&& (255 : Int32))), .val (.int (1 : Int32)), .val (.ref b348), .val (.ref b375), .val (.ref b375), .val (.int (1 : Int32)), .unset, .unset] [(.int ((p1 &&& (2147483647 : Int32)) % ((p0 &&& (7 : Int32)) + (1 : Int32)))), (.ref b348)])) _
      refine st435.trans ?_
      show Steps p.tables e below (T435.setTop (mkF m 162 #[.val (.int p0), .val (.int p1), .val (.int p2), .val (.int p3), .val (.int ((p0 &&& (7 : Int32)) + (1 : Int32))), .val (.int ((p1 &&& (2147483647 : Int32)) % ((p0 &&& (7 : Int32)) + (1 : Int32)))), .val (.int ((p2 &&& (2147483647 : Int32)) % ((p0 &&& (7 : Int32)) + (1 : Int32)))), .val (.int (((p3.toUInt32 >>> ((1 : Int32) &&& 31).toUInt32).toInt32) &&& (255 : Int32))), .val (.int (1 : Int32)), .val (.ref b348), .val (.ref b375), .val (.ref b375), .val (.int (1 : Int32)), .unset, .unset] [(.ref b375)])) _
      refine XS.astore X435.here hx rfl (hb hby at_162) rfl rfl (l' := #[.val (.int p0), .val (.int p1), .val (.int p2), .val (.int p3), .val (.int ((p0 &&& (7 : Int32)) + (1 : Int32))), .val (.int ((p1 &&& (2147483647 : Int32)) % ((p0 &&& (7 : Int32)) + (1 : Int32)))), .val (.int ((p2 &&& (2147483647 : Int32)) % ((p0 &&& (7 : Int32)) + (1 : Int32)))), .val (.int (((p3.toUInt32 >>> ((1 : Int32) &&& 31).toUInt32).toInt32) &&& (255 : Int32))), .val (.int (1 : Int32)), .val (.ref b348), .val (.ref b375), .val (.ref b375), .val (.int (1 : Int32)), .val (.ref b375), .unset]) rfl ?_
      show Steps p.tables e below (T435.setTop (mkF m 164 #[.val (.int p0), .val (.int p1), .val (.int p2), .val (.int p3), .val (.int ((p0 &&& (7 : Int32)) + (1 : Int32))), .val (.int ((p1 &&& (2147483647 : Int32)) % ((p0 &&& (7 : Int32)) + (1 : Int32)))), .val (.int ((p2 &&& (2147483647 : Int32)) % ((p0 &&& (7 : Int32)) + (1 : Int32)))), .val (.int (((p3.toUInt32 >>> ((1 : Int32) &&& 31).toUInt32).toInt32) &&& (255 : Int32))), .val (.int (1 : Int32)), .val (.ref b348), .val (.ref b375), .val (.ref b375), .val (.int (1 : Int32)), .val (.ref b375), .unset] [])) _
      refine XS.iload X435.here hx rfl (hb hby at_164) rfl ?_
      show Steps p.tables e below (T435.setTop (mkF m 166 #[.val (.int p0), .val (.int p1), .val (.int p2), .val (.int p3), .val (.int ((p0 &&& (7 : Int32)) + (1 : Int32))), .val (.int ((p1 &&& (2147483647 : Int32)) % ((p0 &&& (7 : Int32)) + (1 : Int32)))), .val (.int ((p2 &&& (2147483647 : Int32)) % ((p0 &&& (7 : Int32)) + (1 : Int32)))), .val (.int (((p3.toUInt32 >>> ((1 : Int32) &&& 31).toUInt32).toInt32) &&& (255 : Int32))), .val (.int (1 : Int32)), .val (.ref b348), .val (.ref b375), .val (.ref b375), .val (.int (1 : Int32)), .val (.ref b375), .unset] [(.int (1 : Int32))])) _
      refine XS.ifNo X435.here hx rfl (hb hby at_166) rfl ((if0 _ _).trans (feq (by decide : ¬ ((1 : Int32) = (0 : Int32)))).1) ?_
      show Steps p.tables e below (T435.setTop (mkF m 169 #[.val (.int p0), .val (.int p1), .val (.int p2), .val (.int p3), .val (.int ((p0 &&& (7 : Int32)) + (1 : Int32))), .val (.int ((p1 &&& (2147483647 : Int32)) % ((p0 &&& (7 : Int32)) + (1 : Int32)))), .val (.int ((p2 &&& (2147483647 : Int32)) % ((p0 &&& (7 : Int32)) + (1 : Int32)))), .val (.int (((p3.toUInt32 >>> ((1 : Int32) &&& 31).toUInt32).toInt32) &&& (255 : Int32))), .val (.int (1 : Int32)), .val (.ref b348), .val (.ref b375), .val (.ref b375), .val (.int (1 : Int32)), .val (.ref b375), .unset] [])) _
      refine XS.aload X435.here hx rfl (hb hby at_169) rfl rfl ?_
      show Steps p.tables e below (T435.setTop (mkF m 171 #[.val (.int p0), .val (.int p1), .val (.int p2), .val (.int p3), .val (.int ((p0 &&& (7 : Int32)) + (1 : Int32))), .val (.int ((p1 &&& (2147483647 : Int32)) % ((p0 &&& (7 : Int32)) + (1 : Int32)))), .val (.int ((p2 &&& (2147483647 : Int32)) % ((p0 &&& (7 : Int32)) + (1 : Int32)))), .val (.int (((p3.toUInt32 >>> ((1 : Int32) &&& 31).toUInt32).toInt32) &&& (255 : Int32))), .val (.int (1 : Int32)), .val (.ref b348), .val (.ref b375), .val (.ref b375), .val (.int (1 : Int32)), .val (.ref b375), .unset] [(.ref b375)])) _
      refine XS.aload X435.here hx rfl (hb hby at_171) rfl rfl ?_
      show Steps p.tables e below (T435.setTop (mkF m 173 #[.val (.int p0), .val (.int p1), .val (.int p2), .val (.int p3), .val (.int ((p0 &&& (7 : Int32)) + (1 : Int32))), .val (.int ((p1 &&& (2147483647 : Int32)) % ((p0 &&& (7 : Int32)) + (1 : Int32)))), .val (.int ((p2 &&& (2147483647 : Int32)) % ((p0 &&& (7 : Int32)) + (1 : Int32)))), .val (.int (((p3.toUInt32 >>> ((1 : Int32) &&& 31).toUInt32).toInt32) &&& (255 : Int32))), .val (.int (1 : Int32)), .val (.ref b348), .val (.ref b375), .val (.ref b375), .val (.int (1 : Int32)), .val (.ref b375), .unset] [(.ref b375), (.ref b375)])) _
      refine Jvm.RoadKit.acmp (g := (mkF m 173 #[.val (.int p0), .val (.int p1), .val (.int p2), .val (.int p3), .val (.int ((p0 &&& (7 : Int32)) + (1 : Int32))), .val (.int ((p1 &&& (2147483647 : Int32)) % ((p0 &&& (7 : Int32)) + (1 : Int32)))), .val (.int ((p2 &&& (2147483647 : Int32)) % ((p0 &&& (7 : Int32)) + (1 : Int32)))), .val (.int (((p3.toUInt32 >>> ((1 : Int32) &&& 31).toUInt32).toInt32) &&& (255 : Int32))), .val (.int (1 : Int32)), .val (.ref b348), .val (.ref b375), .val (.ref b375), .val (.int (1 : Int32)), .val (.ref b375), .unset] [(.ref b375), (.ref b375)])) X435 hx rfl rfl rfl (pc0 := 173) (pc' := 176) (same := true) rfl (hb hby at_173) rfl (decide_eq_true (congrArg Value.ref rfl)) (by decide) (by decide) ?_
      show Steps p.tables e below (T435.setTop (mkF m 176 #[.val (.int p0), .val (.int p1), .val (.int p2), .val (.int p3), .val (.int ((p0 &&& (7 : Int32)) + (1 : Int32))), .val (.int ((p1 &&& (2147483647 : Int32)) % ((p0 &&& (7 : Int32)) + (1 : Int32)))), .val (.int ((p2 &&& (2147483647 : Int32)) % ((p0 &&& (7 : Int32)) + (1 : Int32)))), .val (.int (((p3.toUInt32 >>> ((1 : Int32) &&& 31).toUInt32).toInt32) &&& (255 : Int32))), .val (.int (1 : Int32)), .val (.ref b348), .val (.ref b375), .val (.ref b375), .val (.int (1 : Int32)), .val (.ref b375), .unset] [])) _
      refine XS.aload X435.here hx rfl (hb hby at_176) rfl rfl ?_
      show Steps p.tables e below (T435.setTop (mkF m 178 #[.val (.int p0), .val (.int p1), .val (.int p2), .val (.int p3), .val (.int ((p0 &&& (7 : Int32)) + (1 : Int32))), .val (.int ((p1 &&& (2147483647 : Int32)) % ((p0 &&& (7 : Int32)) + (1 : Int32)))), .val (.int ((p2 &&& (2147483647 : Int32)) % ((p0 &&& (7 : Int32)) + (1 : Int32)))), .val (.int (((p3.toUInt32 >>> ((1 : Int32) &&& 31).toUInt32).toInt32) &&& (255 : Int32))), .val (.int (1 : Int32)), .val (.ref b348), .val (.ref b375), .val (.ref b375), .val (.int (1 : Int32)), .val (.ref b375), .unset] [(.ref b348)])) _
      refine st437 _ ?_
      show Steps p.tables e below (T437.setTop (mkF m 181 #[.val (.int p0), .val (.int p1), .val (.int p2), .val (.int p3), .val (.int ((p0 &&& (7 : Int32)) + (1 : Int32))), .val (.int ((p1 &&& (2147483647 : Int32)) % ((p0 &&& (7 : Int32)) + (1 : Int32)))), .val (.int ((p2 &&& (2147483647 : Int32)) % ((p0 &&& (7 : Int32)) + (1 : Int32)))), .val (.int (((p3.toUInt32 >>> ((1 : Int32) &&& 31).toUInt32).toInt32) &&& (255 : Int32))), .val (.int (1 : Int32)), .val (.ref b348), .val (.ref b375), .val (.ref b375), .val (.int (1 : Int32)), .val (.ref b375), .unset] [(.ref b68_373)])) _
      refine XS.iload X437.here hx rfl (hb hby at_181) rfl ?_
      show Steps p.tables e below (T437.setTop (mkF m 183 #[.val (.int p0), .val (.int p1), .val (.int p2), .val (.int p3), .val (.int ((p0 &&& (7 : Int32)) + (1 : Int32))), .val (.int ((p1 &&& (2147483647 : Int32)) % ((p0 &&& (7 : Int32)) + (1 : Int32)))), .val (.int ((p2 &&& (2147483647 : Int32)) % ((p0 &&& (7 : Int32)) + (1 : Int32)))), .val (.int (((p3.toUInt32 >>> ((1 : Int32) &&& 31).toUInt32).toInt32) &&& (255 : Int32))), .val (.int (1 : Int32)), .val (.ref b348), .val (.ref b375), .val (.ref b375), .val (.int (1 : Int32)), .val (.ref b375), .unset] [(.int ((p1 &&& (2147483647 : Int32)) % ((p0 &&& (7 : Int32)) + (1 : Int32)))), (.ref b68_373)])) _
      refine X437.aaload hx (j := ((p1 &&& (2147483647 : Int32)) % ((p0 &&& (7 : Int32)) + (1 : Int32)))) (v := (.ref b375)) (by rw [e437]; exact Ar439.1) (State.isArrayOf_alike hZ.alike Ar439.2.1) rfl Ar439.2.2 hin439 hat439 (g := (mkF m 183 #[.val (.int p0), .val (.int p1), .val (.int p2), .val (.int p3), .val (.int ((p0 &&& (7 : Int32)) + (1 : Int32))), .val (.int ((p1 &&& (2147483647 : Int32)) % ((p0 &&& (7 : Int32)) + (1 : Int32)))), .val (.int ((p2 &&& (2147483647 : Int32)) % ((p0 &&& (7 : Int32)) + (1 : Int32)))), .val (.int (((p3.toUInt32 >>> ((1 : Int32) &&& 31).toUInt32).toInt32) &&& (255 : Int32))), .val (.int (1 : Int32)), .val (.ref b348), .val (.ref b375), .val (.ref b375), .val (.int (1 : Int32)), .val (.ref b375), .unset] [(.int ((p1 &&& (2147483647 : Int32)) % ((p0 &&& (7 : Int32)) + (1 : Int32)))), (.ref b68_373)])) rfl rfl (hb hby at_183) _ ?_
      show Steps p.tables e below (T437.setTop (mkF m 184 #[.val (.int p0), .val (.int p1), .val (.int p2), .val (.int p3), .val (.int ((p0 &&& (7 : Int32)) + (1 : Int32))), .val (.int ((p1 &&& (2147483647 : Int32)) % ((p0 &&& (7 : Int32)) + (1 : Int32)))), .val (.int ((p2 &&& (2147483647 : Int32)) % ((p0 &&& (7 : Int32)) + (1 : Int32)))), .val (.int (((p3.toUInt32 >>> ((1 : Int32) &&& 31).toUInt32).toInt32) &&& (255 : Int32))), .val (.int (1 : Int32)), .val (.ref b348), .val (.ref b375), .val (.ref b375), .val (.int (1 : Int32)), .val (.ref b375), .unset] [(.ref b375)])) _
      refine XS.aload X437.here hx rfl (hb hby at_184) rfl rfl ?_
      show Steps p.tables e below (T437.setTop (mkF m 186 #[.val (.int p0), .val (.int p1), .val (.int p2), .val (.int p3), .val (.int ((p0 &&& (7 : Int32)) + (1 : Int32))), .val (.int ((p1 &&& (2147483647 : Int32)) % ((p0 &&& (7 : Int32)) + (1 : Int32)))), .val (.int ((p2 &&& (2147483647 : Int32)) % ((p0 &&& (7 : Int32)) + (1 : Int32)))), .val (.int (((p3.toUInt32 >>> ((1 : Int32) &&& 31).toUInt32).toInt32) &&& (255 : Int32))), .val (.int (1 : Int32)), .val (.ref b348), .val (.ref b375), .val (.ref b375), .val (.int (1 : Int32)), .val (.ref b375), .unset] [(.ref b375), (.ref b375)])) _
      refine Jvm.RoadKit.acmp (g := (mkF m 186 #[.val (.int p0), .val (.int p1), .val (.int p2), .val (.int p3), .val (.int ((p0 &&& (7 : Int32)) + (1 : Int32))), .val (.int ((p1 &&& (2147483647 : Int32)) % ((p0 &&& (7 : Int32)) + (1 : Int32)))), .val (.int ((p2 &&& (2147483647 : Int32)) % ((p0 &&& (7 : Int32)) + (1 : Int32)))), .val (.int (((p3.toUInt32 >>> ((1 : Int32) &&& 31).toUInt32).toInt32) &&& (255 : Int32))), .val (.int (1 : Int32)), .val (.ref b348), .val (.ref b375), .val (.ref b375), .val (.int (1 : Int32)), .val (.ref b375), .unset] [(.ref b375), (.ref b375)])) X437 hx rfl rfl rfl (pc0 := 186) (pc' := 189) (same := true) rfl (hb hby at_186) rfl (decide_eq_true (congrArg Value.ref rfl)) (by decide) (by decide) ?_
      show Steps p.tables e below (T437.setTop (mkF m 189 #[.val (.int p0), .val (.int p1), .val (.int p2), .val (.int p3), .val (.int ((p0 &&& (7 : Int32)) + (1 : Int32))), .val (.int ((p1 &&& (2147483647 : Int32)) % ((p0 &&& (7 : Int32)) + (1 : Int32)))), .val (.int ((p2 &&& (2147483647 : Int32)) % ((p0 &&& (7 : Int32)) + (1 : Int32)))), .val (.int (((p3.toUInt32 >>> ((1 : Int32) &&& 31).toUInt32).toInt32) &&& (255 : Int32))), .val (.int (1 : Int32)), .val (.ref b348), .val (.ref b375), .val (.ref b375), .val (.int (1 : Int32)), .val (.ref b375), .unset] [])) _
      refine XS.iconst X437.here hx rfl (hb hby at_189) ?_
      show Steps p.tables e below (T437.setTop (mkF m 190 #[.val (.int p0), .val (.int p1), .val (.int p2), .val (.int p3), .val (.int ((p0 &&& (7 : Int32)) + (1 : Int32))), .val (.int ((p1 &&& (2147483647 : Int32)) % ((p0 &&& (7 : Int32)) + (1 : Int32)))), .val (.int ((p2 &&& (2147483647 : Int32)) % ((p0 &&& (7 : Int32)) + (1 : Int32)))), .val (.int (((p3.toUInt32 >>> ((1 : Int32) &&& 31).toUInt32).toInt32) &&& (255 : Int32))), .val (.int (1 : Int32)), .val (.ref b348), .val (.ref b375), .val (.ref b375), .val (.int (1 : Int32)), .val (.ref b375), .unset] [(.int (1 : Int32))])) _
      refine XS.goto X437.here hx rfl (pc0 := 190) (pc' := 194) rfl (hb hby at_190) (by decide) (by decide) ?_
      show Steps p.tables e below (T437.setTop (mkF m 194 #[.val (.int p0), .val (.int p1), .val (.int p2), .val (.int p3), .val (.int ((p0 &&& (7 : Int32)) + (1 : Int32))), .val (.int ((p1 &&& (2147483647 : Int32)) % ((p0 &&& (7 : Int32)) + (1 : Int32)))), .val (.int ((p2 &&& (2147483647 : Int32)) % ((p0 &&& (7 : Int32)) + (1 : Int32)))), .val (.int (((p3.toUInt32 >>> ((1 : Int32) &&& 31).toUInt32).toInt32) &&& (255 : Int32))), .val (.int (1 : Int32)), .val (.ref b348), .val (.ref b375), .val (.ref b375), .val (.int (1 : Int32)), .val (.ref b375), .unset] [(.int (1 : Int32))])) _
      refine XS.istore X437.here hx rfl (hb hby at_194) rfl (l' := #[.val (.int p0), .val (.int p1), .val (.int p2), .val (.int p3), .val (.int ((p0 &&& (7 : Int32)) + (1 : Int32))), .val (.int ((p1 &&& (2147483647 : Int32)) % ((p0 &&& (7 : Int32)) + (1 : Int32)))), .val (.int ((p2 &&& (2147483647 : Int32)) % ((p0 &&& (7 : Int32)) + (1 : Int32)))), .val (.int (((p3.toUInt32 >>> ((1 : Int32) &&& 31).toUInt32).toInt32) &&& (255 : Int32))), .val (.int (1 : Int32)), .val (.ref b348), .val (.ref b375), .val (.ref b375), .val (.int (1 : Int32)), .val (.ref b375), .unset]) rfl ?_
      show Steps p.tables e below (T437.setTop (mkF m 196 #[.val (.int p0), .val (.int p1), .val (.int p2), .val (.int p3), .val (.int ((p0 &&& (7 : Int32)) + (1 : Int32))), .val (.int ((p1 &&& (2147483647 : Int32)) % ((p0 &&& (7 : Int32)) + (1 : Int32)))), .val (.int ((p2 &&& (2147483647 : Int32)) % ((p0 &&& (7 : Int32)) + (1 : Int32)))), .val (.int (((p3.toUInt32 >>> ((1 : Int32) &&& 31).toUInt32).toInt32) &&& (255 : Int32))), .val (.int (1 : Int32)), .val (.ref b348), .val (.ref b375), .val (.ref b375), .val (.int (1 : Int32)), .val (.ref b375), .unset] [])) _
      refine XS.iload X437.here hx rfl (hb hby at_196) rfl ?_
      show Steps p.tables e below (T437.setTop (mkF m 198 #[.val (.int p0), .val (.int p1), .val (.int p2), .val (.int p3), .val (.int ((p0 &&& (7 : Int32)) + (1 : Int32))), .val (.int ((p1 &&& (2147483647 : Int32)) % ((p0 &&& (7 : Int32)) + (1 : Int32)))), .val (.int ((p2 &&& (2147483647 : Int32)) % ((p0 &&& (7 : Int32)) + (1 : Int32)))), .val (.int (((p3.toUInt32 >>> ((1 : Int32) &&& 31).toUInt32).toInt32) &&& (255 : Int32))), .val (.int (1 : Int32)), .val (.ref b348), .val (.ref b375), .val (.ref b375), .val (.int (1 : Int32)), .val (.ref b375), .unset] [(.int ((p2 &&& (2147483647 : Int32)) % ((p0 &&& (7 : Int32)) + (1 : Int32))))])) _
      refine XS.iload X437.here hx rfl (hb hby at_198) rfl ?_
      show Steps p.tables e below (T437.setTop (mkF m 200 #[.val (.int p0), .val (.int p1), .val (.int p2), .val (.int p3), .val (.int ((p0 &&& (7 : Int32)) + (1 : Int32))), .val (.int ((p1 &&& (2147483647 : Int32)) % ((p0 &&& (7 : Int32)) + (1 : Int32)))), .val (.int ((p2 &&& (2147483647 : Int32)) % ((p0 &&& (7 : Int32)) + (1 : Int32)))), .val (.int (((p3.toUInt32 >>> ((1 : Int32) &&& 31).toUInt32).toInt32) &&& (255 : Int32))), .val (.int (1 : Int32)), .val (.ref b348), .val (.ref b375), .val (.ref b375), .val (.int (1 : Int32)), .val (.ref b375), .unset] [(.int ((p1 &&& (2147483647 : Int32)) % ((p0 &&& (7 : Int32)) + (1 : Int32)))), (.int ((p2 &&& (2147483647 : Int32)) % ((p0 &&& (7 : Int32)) + (1 : Int32))))])) _
      exact kt
    by_cases hc441 : ((p2 &&& (2147483647 : Int32)) % ((p0 &&& (7 : Int32)) + (1 : Int32))) = ((p1 &&& (2147483647 : Int32)) % ((p0 &&& (7 : Int32)) + (1 : Int32)))
    · have c442 := (c421.keep K435c)
      have c443 := ((((c378.keep K376c).wr W388).keep K409c).keep K435c)
      have c444 := ((((c380.keep K376c).wr W388).keep K409c).keep K435c)
      have c445 := ((((c381.keep K376c).wr W388).keep K409c).keep K435c)
      have c446 := ((((c382.keep K376c).wr W388).keep K409c).keep K435c)
      have c447 := (c422.keep K435c)
      have c448 := (c430.keep K435c)
      have c449 := (c434.keep K435c nin0)
      have c450 := (c425.keep K435c)
      have c451 := (c429.keep K435c nin0)
      obtain ⟨T452, h452, k452, X452, e452, E452, A452, st452⟩ := newP X437 hx hZ (hw _ (tk 87 rfl)) e437 (g := (mkF m 234 #[.val (.int p0), .val (.int p1), .val (.int p2), .val (.int p3), .val (.int ((p0 &&& (7 : Int32)) + (1 : Int32))), .val (.int ((p1 &&& (2147483647 : Int32)) % ((p0 &&& (7 : Int32)) + (1 : Int32)))), .val (.int ((p2 &&& (2147483647 : Int32)) % ((p0 &&& (7 : Int32)) + (1 : Int32)))), .val (.int (((p3.toUInt32 >>> ((1 : Int32) &&& 31).toUInt32).toInt32) &&& (255 : Int32))), .val (.int (1 : Int32)), .val (.ref b348), .val (.ref b375), .val (.ref b375), .val (.int (1 : Int32)), .val (.ref b375), .unset] [(.int (1 : Int32)), (.ref b375)])) rfl (hb hby at_234) rfl (by decide) (cap := 1) (by decide) (by decide) (by decide) (by decide)
      obtain ⟨b452, g452⟩ : ∃ z, z = T435.heap.size := ⟨_, rfl⟩
      rw [← g452] at A452 st452
      have g_b452 : n0 ≤ b452 := Nat.le_trans (own_old O435) (Nat.le_of_eq g452.symm)
      have ne_b348_b452 : b348 ≠ b452 := Nat.ne_of_lt (Nat.lt_of_lt_of_le c442.lt (Nat.le_of_eq g452.symm))
      have ne_b40_373_b452 : b40_373 ≠ b452 := Nat.ne_of_lt (Nat.lt_of_lt_of_le c443.lt (Nat.le_of_eq g452.symm))
      have ne_b68_373_b452 : b68_373 ≠ b452 := Nat.ne_of_lt (Nat.lt_of_lt_of_le c438.lt (Nat.le_of_eq g452.symm))
      have ne_b47_373_b452 : b47_373 ≠ b452 := Nat.ne_of_lt (Nat.lt_of_lt_of_le c444.lt (Nat.le_of_eq g452.symm))
      have ne_b17_48_373_b452 : b17_48_373 ≠ b452 := Nat.ne_of_lt (Nat.lt_of_lt_of_le c445.lt (Nat.le_of_eq g452.symm))
      have ne_b58_373_b452 : b58_373 ≠ b452 := Nat.ne_of_lt (Nat.lt_of_lt_of_le c446.lt (Nat.le_of_eq g452.symm))
      have ne_b375_b452 : b375 ≠ b452 := Nat.ne_of_lt (Nat.lt_of_lt_of_le c447.lt (Nat.le_of_eq g452.symm))
      have ne_b94_376_b452 : b94_376 ≠ b452 := Nat.ne_of_lt (Nat.lt_of_lt_of_le c448.lt (Nat.le_of_eq g452.symm))
      have ne_b101_111_117_376_b452 : b101_111_117_376 ≠ b452 := Nat.ne_of_lt (Nat.lt_of_lt_of_le c449.lt (Nat.le_of_eq g452.symm))
      have ne_b125_376_b452 : b125_376 ≠ b452 := Nat.ne_of_lt (Nat.lt_of_lt_of_le c450.lt (Nat.le_of_eq g452.symm))
      have ne_b101_111_126_376_b452 : b101_111_126_376 ≠ b452 := Nat.ne_of_lt (Nat.lt_of_lt_of_le c451.lt (Nat.le_of_eq g452.symm))
      have O452 : Old Z n0 h452 := O435.ext E452
      have V_b452 : Arv Z h452 b452 k452 .int (1 : Int32) [(.int (0 : Int32))] (.int (0 : Int32)) := (Arv.new A452 (by decide)).pad (pad_rep [] (.int (0 : Int32)) 1)
      obtain ⟨cl453, Ar453, qa453, Sa453, Ma453, Ha453, Ga453⟩ := id V_b452
      have hin453 : ¬ ((0 : Int32) < 0 ∨ cl453.slots.size ≤ ((0 : Int32)).toNatClampNeg) := by exact inb_of Sa453 ⟨by decide, by decide⟩
      obtain ⟨T454, h454, X454, e454, W454, st454⟩ := stI X452 hx hZ e452 Ar453 (j := (0 : Int32)) hin453 (g := (mkF m 240 #[.val (.int p0), .val (.int p1), .val (.int p2), .val (.int p3), .val (.int ((p0 &&& (7 : Int32)) + (1 : Int32))), .val (.int ((p1 &&& (2147483647 : Int32)) % ((p0 &&& (7 : Int32)) + (1 : Int32)))), .val (.int ((p2 &&& (2147483647 : Int32)) % ((p0 &&& (7 : Int32)) + (1 : Int32)))), .val (.int (((p3.toUInt32 >>> ((1 : Int32) &&& 31).toUInt32).toInt32) &&& (255 : Int32))), .val (.int (1 : Int32)), .val (.ref b348), .val (.ref b375), .val (.ref b375), .val (.int (1 : Int32)), .val (.ref b375), .unset] [(.int (((p3.toUInt32 >>> ((1 : Int32) &&& 31).toUInt32).toInt32) &&& (255 : Int32))), (.int (0 : Int32)), (.ref b452), (.ref b452), (.ref b375)])) rfl rfl (hb hby at_240)
      have V_b452_454 : Arv Z h454 b452 k452 .int (1 : Int32) [(.int (((p3.toUInt32 >>> ((1 : Int32) &&& 31).toUInt32).toInt32) &&& (255 : Int32)))] (.int (0 : Int32)) := Arv.set Ar453 qa453 Sa453 Ma453 Ha453 Ga453 rfl W454 0 rfl (Nat.le_of_ble_eq_true rfl)
      have O454 : Old Z n0 h454 := O452.wr W454 g_b452
      have N454 := Fr.snoc X454 N435 g_b452
      have c464 := ((c447.ext E452).wr W454)
      have c465 := (((c423.keep K435c nin0).ext E452).other W454 (Or.inl ne_b375_b452))
      have c466 := (((c424.keep K435c nin0).ext E452).other W454 (Or.inl ne_b375_b452))
      have c467 := ((c450.ext E452).wr W454)
      have c468 := (((c427.keep K435c nin0).ext E452).other W454 (Or.inl ne_b125_376_b452))
      have c469 := (((c428.keep K435c nin0).ext E452).other W454 (Or.inl ne_b125_376_b452))
      have c470 := ((c451.ext E452).other W454 ne_b101_111_126_376_b452)
      have c471 := ((c448.ext E452).wr W454)
      have c472 := (((c432.keep K435c nin0).ext E452).other W454 (Or.inl ne_b94_376_b452))
      have c473 := (((c433.keep K435c nin0).ext E452).other W454 (Or.inl ne_b94_376_b452))
      have c474 := ((c449.ext E452).other W454 ne_b101_111_117_376_b452)
      obtain ⟨cq475, kq475, q475a, q475b, q475c⟩ := isOf hZ e454 c464
      obtain ⟨_, _, ⟨T475, L475, k475, n475⟩, -, X475, ⟨Lc475, hQ475, l475, y475, z475⟩, st475⟩ := X454.virtualBack hx (y := Y11) (z := Y11) hown (mvT hZ (hw _ (tk 88 rfl))) (mvT hZ (hw _ (tk 89 rfl))) (notFace_of_selects (args := #[]) (mvT hZ (hw _ (tk 91 rfl)))) (mvT hZ (hw _ (tk 91 rfl))) (mvT hZ (hw _ (tk 90 rfl))) (by decide) (backOf (W := 0) (rm11x1 l Z a0 hw [] hS0 b375 b452 b125_376 b101_111_126_376 b94_376 b101_111_117_376 k101_111_126_376 k101_111_117_376 k452 (((p3.toUInt32 >>> ((1 : Int32) &&& 31).toUInt32).toInt32) &&& (255 : Int32)) h454 n0 O454 g_b375 g_b125_376 g_b101_111_126_376 g_b94_376 g_b101_111_117_376 g_b452 c464 c465 c466 c467 c468 c469 c470 c471 c472 c473 c474 V_b452_454 ne_b375_b125_376 ne_b375_b101_111_126_376 ne_b375_b94_376 ne_b375_b101_111_117_376 ne_b375_b452 Fx376_23 (Ne.symm Fx376_19) (Ne.symm Fx376_21) ne_b125_376_b452 (Ne.symm Fx376_20) (Ne.symm Fx376_22) ne_b101_111_126_376_b452 Fx376_18 ne_b94_376_b452 ne_b101_111_117_376_b452 (own_notbelow (own_rand ((p3.toUInt32 >>> ((1 : Int32) &&& 31).toUInt32).toInt32) (255 : Int32) 256 (by decide) (by decide)) (by decide)) (own_notbelow (own_rshr (((p3.toUInt32 >>> ((1 : Int32) &&& 31).toUInt32).toInt32) &&& (255 : Int32)) (6 : Int32) 6 4 (own_rand ((p3.toUInt32 >>> ((1 : Int32) &&& 31).toUInt32).toInt32) (255 : Int32) 256 (by decide) (by decide)) (by decide) (by decide)) (by decide))) hZ (hw _ (tk 92 rfl)) (hw _ (tk 49 rfl)) (by decide) (by decide)) q475a q475c (g := (mkF m 241 #[.val (.int p0), .val (.int p1), .val (.int p2), .val (.int p3), .val (.int ((p0 &&& (7 : Int32)) + (1 : Int32))), .val (.int ((p1 &&& (2147483647 : Int32)) % ((p0 &&& (7 : Int32)) + (1 : Int32)))), .val (.int ((p2 &&& (2147483647 : Int32)) % ((p0 &&& (7 : Int32)) + (1 : Int32)))), .val (.int (((p3.toUInt32 >>> ((1 : Int32) &&& 31).toUInt32).toInt32) &&& (255 : Int32))), .val (.int (1 : Int32)), .val (.ref b348), .val (.ref b375), .val (.ref b375), .val (.int (1 : Int32)), .val (.ref b375), .unset] [(.ref b452), (.ref b375)])) rfl (by rw [hml]; rfl) (Steps.refl _) (argsL := [(.ref b452)]) (rest := []) (lenOf pd_5 rfl) rfl (by show 2 * 0 + _ ≤ _; exact Nat.le_of_eq rfl) (hb hby at_241) (fun _ _ => ⟨rfl, e454, (by decide : 12 + 0 ≤ _), (by decide : 48 + 0 ≤ _)⟩)
      dsimp only [Pt.U, Pt.locs, Pt.cells, Pt.slots] at X475 l475 y475 z475 st475 hQ475
      subst l475 y475 z475
      obtain ⟨rv475, N475q, e475⟩ := hQ475
      subst rv475
      have N475 := Fr.app N454 N475q
      have c481 := ((c442.ext E452).wr W454)
      have c482 := ((c436.ext E452).other W454 (Or.inl ne_b348_b452))
      have c483 := ((c438.ext E452).other W454 ne_b68_373_b452)
      have c484 := (((c426.keep K435c nin0).ext E452).other W454 (Or.inl ne_b125_376_b452))
      have c485 := (((c431.keep K435c nin0).ext E452).other W454 (Or.inl ne_b94_376_b452))
      obtain ⟨cq486, kq486, q486a, q486b, q486c⟩ := isOf hZ e475 c481
      obtain ⟨_, _, ⟨T486, L486, k486, n486⟩, -, X486, ⟨Lc486, hQ486, l486, y486, z486⟩, st486⟩ := X475.virtualBack hx (y := Y8) (z := Y8) hown (mvT hZ (hw _ (tk 82 rfl))) (mvT hZ (hw _ (tk 83 rfl))) (notFace_of_selects (args := #[]) (mvT hZ (hw _ (tk 85 rfl)))) (mvT hZ (hw _ (tk 85 rfl))) (mvT hZ (hw _ (tk 84 rfl))) (by decide) (backOf (W := 0) (rm10x2 l Z a0 hw [] hS0 b348 ((p2 &&& (2147483647 : Int32)) % ((p0 &&& (7 : Int32)) + (1 : Int32))) b68_373 b375 b125_376 b101_111_126_376 b94_376 b101_111_117_376 k68_373 ((p0 &&& (7 : Int32)) + (1 : Int32)) ((p1 &&& (2147483647 : Int32)) % ((p0 &&& (7 : Int32)) + (1 : Int32))) k101_111_126_376 k101_111_117_376 h454 n0 O454 g_b348 g_b68_373 g_b375 g_b125_376 g_b101_111_126_376 g_b94_376 g_b101_111_117_376 c481 c482 Fx373_7 c483 c464 c465 c466 c467 c484 c468 c469 c470 c471 c485 c472 c473 c474 ne_b348_b68_373 ne_b348_b375 ne_b348_b125_376 ne_b348_b101_111_126_376 ne_b348_b94_376 ne_b348_b101_111_117_376 ne_b68_373_b375 ne_b68_373_b125_376 ne_b68_373_b101_111_126_376 ne_b68_373_b94_376 ne_b68_373_b101_111_117_376 ne_b375_b125_376 ne_b375_b101_111_126_376 ne_b375_b94_376 ne_b375_b101_111_117_376 Fx376_23 (Ne.symm Fx376_19) (Ne.symm Fx376_21) (Ne.symm Fx376_20) (Ne.symm Fx376_22) Fx376_18 hc441 fk5 fk3) hZ (hw _ (tk 86 rfl)) (hw _ (tk 3 rfl)) (by decide) (by decide)) q486a q486c (g := (mkF m 258 #[.val (.int p0), .val (.int p1), .val (.int p2), .val (.int p3), .val (.int ((p0 &&& (7 : Int32)) + (1 : Int32))), .val (.int ((p1 &&& (2147483647 : Int32)) % ((p0 &&& (7 : Int32)) + (1 : Int32)))), .val (.int ((p2 &&& (2147483647 : Int32)) % ((p0 &&& (7 : Int32)) + (1 : Int32)))), .val (.int (((p3.toUInt32 >>> ((1 : Int32) &&& 31).toUInt32).toInt32) &&& (255 : Int32))), .val (.int (1 : Int32)), .val (.ref b348), .val (.ref b375), .val (.ref b375), .val (.int (1 : Int32)), .val (.ref b375), .unset] [(.int ((p2 &&& (2147483647 : Int32)) % ((p0 &&& (7 : Int32)) + (1 : Int32)))), (.ref b348)])) rfl (by rw [hml]; rfl) (Steps.refl _) (argsL := [(.int ((p2 &&& (2147483647 : Int32)) % ((p0 &&& (7 : Int32)) + (1 : Int32))))]) (rest := []) (lenOf pd_3 rfl) rfl (by show 2 * 0 + _ ≤ _; exact Nat.le_of_eq rfl) (hb hby at_258) (fun _ _ => ⟨rfl, e475, (by decide : 12 + 0 ≤ _), (by decide : 48 + 0 ≤ _)⟩)
      dsimp only [Pt.U, Pt.locs, Pt.cells, Pt.slots] at X486 l486 y486 z486 st486 hQ486
      subst l486 y486 z486
      obtain ⟨rv486, N486q, O486, K486c⟩ := hQ486
      subst rv486
      have N486 := Fr.app N475 N486q
      have c487 := (c482.keep K486c nin0)
      obtain ⟨T488, X488, e488, st488⟩ := getF X486 hx hZ hown (host := "") (Or.inl (hw _ (tk 80 rfl))) Via.refl rfl c487 (g := (mkF m 275 #[.val (.int p0), .val (.int p1), .val (.int p2), .val (.int p3), .val (.int ((p0 &&& (7 : Int32)) + (1 : Int32))), .val (.int ((p1 &&& (2147483647 : Int32)) % ((p0 &&& (7 : Int32)) + (1 : Int32)))), .val (.int ((p2 &&& (2147483647 : Int32)) % ((p0 &&& (7 : Int32)) + (1 : Int32)))), .val (.int (((p3.toUInt32 >>> ((1 : Int32) &&& 31).toUInt32).toInt32) &&& (255 : Int32))), .val (.int (1 : Int32)), .val (.ref b348), .val (.ref b375), .val (.ref b375), .val (.int (1 : Int32)), .val (.ref b375), .val (.ref b375)] [(.ref b348)])) rfl rfl (hb hby at_275)
      have c489 := (c483.keep K486c nin0)
      obtain ⟨cl490, Ar490, qa490, Sa490, Ma490, Ha490, Ga490⟩ := id c489
      have hin490 : ¬ (((p2 &&& (2147483647 : Int32)) % ((p0 &&& (7 : Int32)) + (1 : Int32))) < 0 ∨ cl490.slots.size ≤ (((p2 &&& (2147483647 : Int32)) % ((p0 &&& (7 : Int32)) + (1 : Int32)))).toNatClampNeg) := by exact inb_of Sa490 ⟨fk3, fk5⟩
      have hat490 : cl490.slots[(((p2 &&& (2147483647 : Int32)) % ((p0 &&& (7 : Int32)) + (1 : Int32)))).toNatClampNeg]? = some (.ref b375) := atH Ha490 hin490 (getH_hit fk3 hc441)
      obtain ⟨T491, X491, e491, st491⟩ := getF X488 hx hZ hown (host := "") (Or.inl (hw _ (tk 80 rfl))) Via.refl e488 c487 (g := (mkF m 327 #[.val (.int p0), .val (.int p1), .val (.int p2), .val (.int p3), .val (.int ((p0 &&& (7 : Int32)) + (1 : Int32))), .val (.int ((p1 &&& (2147483647 : Int32)) % ((p0 &&& (7 : Int32)) + (1 : Int32)))), .val (.int ((p2 &&& (2147483647 : Int32)) % ((p0 &&& (7 : Int32)) + (1 : Int32)))), .val (.int (((p3.toUInt32 >>> ((1 : Int32) &&& 31).toUInt32).toInt32) &&& (255 : Int32))), .val (.int (1 : Int32)), .val (.ref b348), .val (.ref b375), .val (.ref b375), .val (.int (1 : Int32)), .val (.ref b375), .val (.ref b375)] [(.ref b348)])) rfl rfl (hb hby at_327)
      obtain ⟨cl492, Ar492, qa492, Sa492, Ma492, Ha492, Ga492⟩ := id c489
      have hin492 : ¬ (((p1 &&& (2147483647 : Int32)) % ((p0 &&& (7 : Int32)) + (1 : Int32))) < 0 ∨ cl492.slots.size ≤ (((p1 &&& (2147483647 : Int32)) % ((p0 &&& (7 : Int32)) + (1 : Int32)))).toNatClampNeg) := by exact inb_of Sa492 ⟨fk2, fk4⟩
      have hat492 : cl492.slots[(((p1 &&& (2147483647 : Int32)) % ((p0 &&& (7 : Int32)) + (1 : Int32)))).toNatClampNeg]? = some (.ref b375) := atH Ha492 hin492 (getH_hit fk2 rfl)
      obtain ⟨fs, hr, hrun, hended, hW, hsame⟩ := X491.leave (v := some (.int (1 : Int32))) (fun h => by rw [Bd.returns] at h; cases h)
      refine ⟨_, _, pre440 _ ?_, hrun, hended, _, _, rfl, ?_, ⟨_, rfl⟩, hW, hsame.mono (by decide) (by decide)⟩
      · show Steps p.tables e below (T437.setTop (mkF m 200 #[.val (.int p0), .val (.int p1), .val (.int p2), .val (.int p3), .val (.int ((p0 &&& (7 : Int32)) + (1 : Int32))), .val (.int ((p1 &&& (2147483647 : Int32)) % ((p0 &&& (7 : Int32)) + (1 : Int32)))), .val (.int ((p2 &&& (2147483647 : Int32)) % ((p0 &&& (7 : Int32)) + (1 : Int32)))), .val (.int (((p3.toUInt32 >>> ((1 : Int32) &&& 31).toUInt32).toInt32) &&& (255 : Int32))), .val (.int (1 : Int32)), .val (.ref b348), .val (.ref b375), .val (.ref b375), .val (.int (1 : Int32)), .val (.ref b375), .unset] [(.int ((p1 &&& (2147483647 : Int32)) % ((p0 &&& (7 : Int32)) + (1 : Int32)))), (.int ((p2 &&& (2147483647 : Int32)) % ((p0 &&& (7 : Int32)) + (1 : Int32))))])) _
        refine XS.icmpYes X437.here hx rfl (pc0 := 200) (pc' := 226) rfl (hb hby at_200) rfl (teq hc441).1 (by decide) (by decide) ?_
        show Steps p.tables e below (T437.setTop (mkF m 226 #[.val (.int p0), .val (.int p1), .val (.int p2), .val (.int p3), .val (.int ((p0 &&& (7 : Int32)) + (1 : Int32))), .val (.int ((p1 &&& (2147483647 : Int32)) % ((p0 &&& (7 : Int32)) + (1 : Int32)))), .val (.int ((p2 &&& (2147483647 : Int32)) % ((p0 &&& (7 : Int32)) + (1 : Int32)))), .val (.int (((p3.toUInt32 >>> ((1 : Int32) &&& 31).toUInt32).toInt32) &&& (255 : Int32))), .val (.int (1 : Int32)), .val (.ref b348), .val (.ref b375), .val (.ref b375), .val (.int (1 : Int32)), .val (.ref b375), .unset] [])) _
        refine XS.iload X437.here hx rfl (hb hby at_226) rfl ?_
        show Steps p.tables e below (T437.setTop (mkF m 228 #[.val (.int p0), .val (.int p1), .val (.int p2), .val (.int p3), .val (.int ((p0 &&& (7 : Int32)) + (1 : Int32))), .val (.int ((p1 &&& (2147483647 : Int32)) % ((p0 &&& (7 : Int32)) + (1 : Int32)))), .val (.int ((p2 &&& (2147483647 : Int32)) % ((p0 &&& (7 : Int32)) + (1 : Int32)))), .val (.int (((p3.toUInt32 >>> ((1 : Int32) &&& 31).toUInt32).toInt32) &&& (255 : Int32))), .val (.int (1 : Int32)), .val (.ref b348), .val (.ref b375), .val (.ref b375), .val (.int (1 : Int32)), .val (.ref b375), .unset] [(.int (1 : Int32))])) _
        refine XS.ifNo X437.here hx rfl (hb hby at_228) rfl ((if0 _ _).trans (feq (by decide : ¬ ((1 : Int32) = (0 : Int32)))).1) ?_
        show Steps p.tables e below (T437.setTop (mkF m 231 #[.val (.int p0), .val (.int p1), .val (.int p2), .val (.int p3), .val (.int ((p0 &&& (7 : Int32)) + (1 : Int32))), .val (.int ((p1 &&& (2147483647 : Int32)) % ((p0 &&& (7 : Int32)) + (1 : Int32)))), .val (.int ((p2 &&& (2147483647 : Int32)) % ((p0 &&& (7 : Int32)) + (1 : Int32)))), .val (.int (((p3.toUInt32 >>> ((1 : Int32) &&& 31).toUInt32).toInt32) &&& (255 : Int32))), .val (.int (1 : Int32)), .val (.ref b348), .val (.ref b375), .val (.ref b375), .val (.int (1 : Int32)), .val (.ref b375), .unset] [])) _
        refine XS.aload X437.here hx rfl (hb hby at_231) rfl rfl ?_
        show Steps p.tables e below (T437.setTop (mkF m 233 #[.val (.int p0), .val (.int p1), .val (.int p2), .val (.int p3), .val (.int ((p0 &&& (7 : Int32)) + (1 : Int32))), .val (.int ((p1 &&& (2147483647 : Int32)) % ((p0 &&& (7 : Int32)) + (1 : Int32)))), .val (.int ((p2 &&& (2147483647 : Int32)) % ((p0 &&& (7 : Int32)) + (1 : Int32)))), .val (.int (((p3.toUInt32 >>> ((1 : Int32) &&& 31).toUInt32).toInt32) &&& (255 : Int32))), .val (.int (1 : Int32)), .val (.ref b348), .val (.ref b375), .val (.ref b375), .val (.int (1 : Int32)), .val (.ref b375), .unset] [(.ref b375)])) _
        refine XS.iconst X437.here hx rfl (hb hby at_233) ?_
        show Steps p.tables e below (T437.setTop (mkF m 234 #[.val (.int p0), .val (.int p1), .val (.int p2), .val (.int p3), .val (.int ((p0 &&& (7 : Int32)) + (1 : Int32))), .val (.int ((p1 &&& (2147483647 : Int32)) % ((p0 &&& (7 : Int32)) + (1 : Int32)))), .val (.int ((p2 &&& (2147483647 : Int32)) % ((p0 &&& (7 : Int32)) + (1 : Int32)))), .val (.int (((p3.toUInt32 >>> ((1 : Int32) &&& 31).toUInt32).toInt32) &&& (255 : Int32))), .val (.int (1 : Int32)), .val (.ref b348), .val (.ref b375), .val (.ref b375), .val (.int (1 : Int32)), .val (.ref b375), .unset] [(.int (1 : Int32)), (.ref b375)])) _
        refine st452 _ ?_
        show Steps p.tables e below (T452.setTop (mkF m 236 #[.val (.int p0), .val (.int p1), .val (.int p2), .val (.int p3), .val (.int ((p0 &&& (7 : Int32)) + (1 : Int32))), .val (.int ((p1 &&& (2147483647 : Int32)) % ((p0 &&& (7 : Int32)) + (1 : Int32)))), .val (.int ((p2 &&& (2147483647 : Int32)) % ((p0 &&& (7 : Int32)) + (1 : Int32)))), .val (.int (((p3.toUInt32 >>> ((1 : Int32) &&& 31).toUInt32).toInt32) &&& (255 : Int32))), .val (.int (1 : Int32)), .val (.ref b348), .val (.ref b375), .val (.ref b375), .val (.int (1 : Int32)), .val (.ref b375), .unset] [(.ref b452), (.ref b375)])) _
        refine XS.dup X452.here hx rfl (hb hby at_236) rfl rfl ?_
        show Steps p.tables e below (T452.setTop (mkF m 237 #[.val (.int p0), .val (.int p1), .val (.int p2), .val (.int p3), .val (.int ((p0 &&& (7 : Int32)) + (1 : Int32))), .val (.int ((p1 &&& (2147483647 : Int32)) % ((p0 &&& (7 : Int32)) + (1 : Int32)))), .val (.int ((p2 &&& (2147483647 : Int32)) % ((p0 &&& (7 : Int32)) + (1 : Int32)))), .val (.int (((p3.toUInt32 >>> ((1 : Int32) &&& 31).toUInt32).toInt32) &&& (255 : Int32))), .val (.int (1 : Int32)), .val (.ref b348), .val (.ref b375), .val (.ref b375), .val (.int (1 : Int32)), .val (.ref b375), .unset] [(.ref b452), (.ref b452), (.ref b375)])) _
        refine XS.iconst X452.here hx rfl (hb hby at_237) ?_
        show Steps p.tables e below (T452.setTop (mkF m 238 #[.val (.int p0), .val (.int p1), .val (.int p2), .val (.int p3), .val (.int ((p0 &&& (7 : Int32)) + (1 : Int32))), .val (.int ((p1 &&& (2147483647 : Int32)) % ((p0 &&& (7 : Int32)) + (1 : Int32)))), .val (.int ((p2 &&& (2147483647 : Int32)) % ((p0 &&& (7 : Int32)) + (1 : Int32)))), .val (.int (((p3.toUInt32 >>> ((1 : Int32) &&& 31).toUInt32).toInt32) &&& (255 : Int32))), .val (.int (1 : Int32)), .val (.ref b348), .val (.ref b375), .val (.ref b375), .val (.int (1 : Int32)), .val (.ref b375), .unset] [(.int (0 : Int32)), (.ref b452), (.ref b452), (.ref b375)])) _
        refine XS.iload X452.here hx rfl (hb hby at_238) rfl ?_
        show Steps p.tables e below (T452.setTop (mkF m 240 #[.val (.int p0), .val (.int p1), .val (.int p2), .val (.int p3), .val (.int ((p0 &&& (7 : Int32)) + (1 : Int32))), .val (.int ((p1 &&& (2147483647 : Int32)) % ((p0 &&& (7 : Int32)) + (1 : Int32)))), .val (.int ((p2 &&& (2147483647 : Int32)) % ((p0 &&& (7 : Int32)) + (1 : Int32)))), .val (.int (((p3.toUInt32 >>> ((1 : Int32) &&& 31).toUInt32).toInt32) &&& (255 : Int32))), .val (.int (1 : Int32)), .val (.ref b348), .val (.ref b375), .val (.ref b375), .val (.int (1 : Int32)), .val (.ref b375), .unset] [(.int (((p3.toUInt32 >>> ((1 : Int32) &&& 31).toUInt32).toInt32) &&& (255 : Int32))), (.int (0 : Int32)), (.ref b452), (.ref b452), (.ref b375)])) _
        refine st454 _ ?_
        show Steps p.tables e below (T454.setTop (mkF m 241 #[.val (.int p0), .val (.int p1), .val (.int p2), .val (.int p3), .val (.int ((p0 &&& (7 : Int32)) + (1 : Int32))), .val (.int ((p1 &&& (2147483647 : Int32)) % ((p0 &&& (7 : Int32)) + (1 : Int32)))), .val (.int ((p2 &&& (2147483647 : Int32)) % ((p0 &&& (7 : Int32)) + (1 : Int32)))), .val (.int (((p3.toUInt32 >>> ((1 : Int32) &&& 31).toUInt32).toInt32) &&& (255 : Int32))), .val (.int (1 : Int32)), .val (.ref b348), .val (.ref b375), .val (.ref b375), .val (.int (1 : Int32)), .val (.ref b375), .unset] [(.ref b452), (.ref b375)])) _
        refine st475.trans ?_
        show Steps p.tables e below (T475.setTop (mkF m 244 #[.val (.int p0), .val (.int p1), .val (.int p2), .val (.int p3), .val (.int ((p0 &&& (7 : Int32)) + (1 : Int32))), .val (.int ((p1 &&& (2147483647 : Int32)) % ((p0 &&& (7 : Int32)) + (1 : Int32)))), .val (.int ((p2 &&& (2147483647 : Int32)) % ((p0 &&& (7 : Int32)) + (1 : Int32)))), .val (.int (((p3.toUInt32 >>> ((1 : Int32) &&& 31).toUInt32).toInt32) &&& (255 : Int32))), .val (.int (1 : Int32)), .val (.ref b348), .val (.ref b375), .val (.ref b375), .val (.int (1 : Int32)), .val (.ref b375), .unset] [.null])) _
        refine XS.ifnonnullNo X475.here hx rfl (hb hby at_244) rfl ?_
        show Steps p.tables e below (T475.setTop (mkF m 247 #[.val (.int p0), .val (.int p1), .val (.int p2), .val (.int p3), .val (.int ((p0 &&& (7 : Int32)) + (1 : Int32))), .val (.int ((p1 &&& (2147483647 : Int32)) % ((p0 &&& (7 : Int32)) + (1 : Int32)))), .val (.int ((p2 &&& (2147483647 : Int32)) % ((p0 &&& (7 : Int32)) + (1 : Int32)))), .val (.int (((p3.toUInt32 >>> ((1 : Int32) &&& 31).toUInt32).toInt32) &&& (255 : Int32))), .val (.int (1 : Int32)), .val (.ref b348), .val (.ref b375), .val (.ref b375), .val (.int (1 : Int32)), .val (.ref b375), .unset] [])) _
        refine XS.iconst X475.here hx rfl (hb hby at_247) ?_
        show Steps p.tables e below (T475.setTop (mkF m 248 #[.val (.int p0), .val (.int p1), .val (.int p2), .val (.int p3), .val (.int ((p0 &&& (7 : Int32)) + (1 : Int32))), .val (.int ((p1 &&& (2147483647 : Int32)) % ((p0 &&& (7 : Int32)) + (1 : Int32)))), .val (.int ((p2 &&& (2147483647 : Int32)) % ((p0 &&& (7 : Int32)) + (1 : Int32)))), .val (.int (((p3.toUInt32 >>> ((1 : Int32) &&& 31).toUInt32).toInt32) &&& (255 : Int32))), .val (.int (1 : Int32)), .val (.ref b348), .val (.ref b375), .val (.ref b375), .val (.int (1 : Int32)), .val (.ref b375), .unset] [(.int (1 : Int32))])) _
        refine XS.goto X475.here hx rfl (pc0 := 248) (pc' := 252) rfl (hb hby at_248) (by decide) (by decide) ?_
        show Steps p.tables e below (T475.setTop (mkF m 252 #[.val (.int p0), .val (.int p1), .val (.int p2), .val (.int p3), .val (.int ((p0 &&& (7 : Int32)) + (1 : Int32))), .val (.int ((p1 &&& (2147483647 : Int32)) % ((p0 &&& (7 : Int32)) + (1 : Int32)))), .val (.int ((p2 &&& (2147483647 : Int32)) % ((p0 &&& (7 : Int32)) + (1 : Int32)))), .val (.int (((p3.toUInt32 >>> ((1 : Int32) &&& 31).toUInt32).toInt32) &&& (255 : Int32))), .val (.int (1 : Int32)), .val (.ref b348), .val (.ref b375), .val (.ref b375), .val (.int (1 : Int32)), .val (.ref b375), .unset] [(.int (1 : Int32))])) _
        refine XS.istore X475.here hx rfl (hb hby at_252) rfl (l' := #[.val (.int p0), .val (.int p1), .val (.int p2), .val (.int p3), .val (.int ((p0 &&& (7 : Int32)) + (1 : Int32))), .val (.int ((p1 &&& (2147483647 : Int32)) % ((p0 &&& (7 : Int32)) + (1 : Int32)))), .val (.int ((p2 &&& (2147483647 : Int32)) % ((p0 &&& (7 : Int32)) + (1 : Int32)))), .val (.int (((p3.toUInt32 >>> ((1 : Int32) &&& 31).toUInt32).toInt32) &&& (255 : Int32))), .val (.int (1 : Int32)), .val (.ref b348), .val (.ref b375), .val (.ref b375), .val (.int (1 : Int32)), .val (.ref b375), .unset]) rfl ?_
        show Steps p.tables e below (T475.setTop (mkF m 254 #[.val (.int p0), .val (.int p1), .val (.int p2), .val (.int p3), .val (.int ((p0 &&& (7 : Int32)) + (1 : Int32))), .val (.int ((p1 &&& (2147483647 : Int32)) % ((p0 &&& (7 : Int32)) + (1 : Int32)))), .val (.int ((p2 &&& (2147483647 : Int32)) % ((p0 &&& (7 : Int32)) + (1 : Int32)))), .val (.int (((p3.toUInt32 >>> ((1 : Int32) &&& 31).toUInt32).toInt32) &&& (255 : Int32))), .val (.int (1 : Int32)), .val (.ref b348), .val (.ref b375), .val (.ref b375), .val (.int (1 : Int32)), .val (.ref b375), .unset] [])) _
        refine XS.aload X475.here hx rfl (hb hby at_254) rfl rfl ?_
        show Steps p.tables e below (T475.setTop (mkF m 256 #[.val (.int p0), .val (.int p1), .val (.int p2), .val (.int p3), .val (.int ((p0 &&& (7 : Int32)) + (1 : Int32))), .val (.int ((p1 &&& (2147483647 : Int32)) % ((p0 &&& (7 : Int32)) + (1 : Int32)))), .val (.int ((p2 &&& (2147483647 : Int32)) % ((p0 &&& (7 : Int32)) + (1 : Int32)))), .val (.int (((p3.toUInt32 >>> ((1 : Int32) &&& 31).toUInt32).toInt32) &&& (255 : Int32))), .val (.int (1 : Int32)), .val (.ref b348), .val (.ref b375), .val (.ref b375), .val (.int (1 : Int32)), .val (.ref b375), .unset] [(.ref b348)])) _
        refine XS.iload X475.here hx rfl (hb hby at_256) rfl ?_
        show Steps p.tables e below (T475.setTop (mkF m 258 #[.val (.int p0), .val (.int p1), .val (.int p2), .val (.int p3), .val (.int ((p0 &&& (7 : Int32)) + (1 : Int32))), .val (.int ((p1 &&& (2147483647 : Int32)) % ((p0 &&& (7 : Int32)) + (1 : Int32)))), .val (.int ((p2 &&& (2147483647 : Int32)) % ((p0 &&& (7 : Int32)) + (1 : Int32)))), .val (.int (((p3.toUInt32 >>> ((1 : Int32) &&& 31).toUInt32).toInt32) &&& (255 : Int32))), .val (.int (1 : Int32)), .val (.ref b348), .val (.ref b375), .val (.ref b375), .val (.int (1 : Int32)), .val (.ref b375), .unset] [(.int ((p2 &&& (2147483647 : Int32)) % ((p0 &&& (7 : Int32)) + (1 : Int32)))), (.ref b348)])) _
        refine st486.trans ?_
        show Steps p.tables e below (T486.setTop (mkF m 261 #[.val (.int p0), .val (.int p1), .val (.int p2), .val (.int p3), .val (.int ((p0 &&& (7 : Int32)) + (1 : Int32))), .val (.int ((p1 &&& (2147483647 : Int32)) % ((p0 &&& (7 : Int32)) + (1 : Int32)))), .val (.int ((p2 &&& (2147483647 : Int32)) % ((p0 &&& (7 : Int32)) + (1 : Int32)))), .val (.int (((p3.toUInt32 >>> ((1 : Int32) &&& 31).toUInt32).toInt32) &&& (255 : Int32))), .val (.int (1 : Int32)), .val (.ref b348), .val (.ref b375), .val (.ref b375), .val (.int (1 : Int32)), .val (.ref b375), .unset] [(.ref b375)])) _
        refine XS.astore X486.here hx rfl (hb hby at_261) rfl rfl (l' := #[.val (.int p0), .val (.int p1), .val (.int p2), .val (.int p3), .val (.int ((p0 &&& (7 : Int32)) + (1 : Int32))), .val (.int ((p1 &&& (2147483647 : Int32)) % ((p0 &&& (7 : Int32)) + (1 : Int32)))), .val (.int ((p2 &&& (2147483647 : Int32)) % ((p0 &&& (7 : Int32)) + (1 : Int32)))), .val (.int (((p3.toUInt32 >>> ((1 : Int32) &&& 31).toUInt32).toInt32) &&& (255 : Int32))), .val (.int (1 : Int32)), .val (.ref b348), .val (.ref b375), .val (.ref b375), .val (.int (1 : Int32)), .val (.ref b375), .val (.ref b375)]) rfl ?_
        show Steps p.tables e below (T486.setTop (mkF m 263 #[.val (.int p0), .val (.int p1), .val (.int p2), .val (.int p3), .val (.int ((p0 &&& (7 : Int32)) + (1 : Int32))), .val (.int ((p1 &&& (2147483647 : Int32)) % ((p0 &&& (7 : Int32)) + (1 : Int32)))), .val (.int ((p2 &&& (2147483647 : Int32)) % ((p0 &&& (7 : Int32)) + (1 : Int32)))), .val (.int (((p3.toUInt32 >>> ((1 : Int32) &&& 31).toUInt32).toInt32) &&& (255 : Int32))), .val (.int (1 : Int32)), .val (.ref b348), .val (.ref b375), .val (.ref b375), .val (.int (1 : Int32)), .val (.ref b375), .val (.ref b375)] [])) _
        refine XS.iload X486.here hx rfl (hb hby at_263) rfl ?_
        show Steps p.tables e below (T486.setTop (mkF m 265 #[.val (.int p0), .val (.int p1), .val (.int p2), .val (.int p3), .val (.int ((p0 &&& (7 : Int32)) + (1 : Int32))), .val (.int ((p1 &&& (2147483647 : Int32)) % ((p0 &&& (7 : Int32)) + (1 : Int32)))), .val (.int ((p2 &&& (2147483647 : Int32)) % ((p0 &&& (7 : Int32)) + (1 : Int32)))), .val (.int (((p3.toUInt32 >>> ((1 : Int32) &&& 31).toUInt32).toInt32) &&& (255 : Int32))), .val (.int (1 : Int32)), .val (.ref b348), .val (.ref b375), .val (.ref b375), .val (.int (1 : Int32)), .val (.ref b375), .val (.ref b375)] [(.int (1 : Int32))])) _
        refine XS.ifNo X486.here hx rfl (hb hby at_265) rfl ((if0 _ _).trans (feq (by decide : ¬ ((1 : Int32) = (0 : Int32)))).1) ?_
        show Steps p.tables e below (T486.setTop (mkF m 268 #[.val (.int p0), .val (.int p1), .val (.int p2), .val (.int p3), .val (.int ((p0 &&& (7 : Int32)) + (1 : Int32))), .val (.int ((p1 &&& (2147483647 : Int32)) % ((p0 &&& (7 : Int32)) + (1 : Int32)))), .val (.int ((p2 &&& (2147483647 : Int32)) % ((p0 &&& (7 : Int32)) + (1 : Int32)))), .val (.int (((p3.toUInt32 >>> ((1 : Int32) &&& 31).toUInt32).toInt32) &&& (255 : Int32))), .val (.int (1 : Int32)), .val (.ref b348), .val (.ref b375), .val (.ref b375), .val (.int (1 : Int32)), .val (.ref b375), .val (.ref b375)] [])) _
        refine XS.aload X486.here hx rfl (hb hby at_268) rfl rfl ?_
        show Steps p.tables e below (T486.setTop (mkF m 270 #[.val (.int p0), .val (.int p1), .val (.int p2), .val (.int p3), .val (.int ((p0 &&& (7 : Int32)) + (1 : Int32))), .val (.int ((p1 &&& (2147483647 : Int32)) % ((p0 &&& (7 : Int32)) + (1 : Int32)))), .val (.int ((p2 &&& (2147483647 : Int32)) % ((p0 &&& (7 : Int32)) + (1 : Int32)))), .val (.int (((p3.toUInt32 >>> ((1 : Int32) &&& 31).toUInt32).toInt32) &&& (255 : Int32))), .val (.int (1 : Int32)), .val (.ref b348), .val (.ref b375), .val (.ref b375), .val (.int (1 : Int32)), .val (.ref b375), .val (.ref b375)] [(.ref b375)])) _
        refine XS.ifnullNo X486.here hx rfl (hb hby at_270) rfl ?_
        show Steps p.tables e below (T486.setTop (mkF m 273 #[.val (.int p0), .val (.int p1), .val (.int p2), .val (.int p3), .val (.int ((p0 &&& (7 : Int32)) + (1 : Int32))), .val (.int ((p1 &&& (2147483647 : Int32)) % ((p0 &&& (7 : Int32)) + (1 : Int32)))), .val (.int ((p2 &&& (2147483647 : Int32)) % ((p0 &&& (7 : Int32)) + (1 : Int32)))), .val (.int (((p3.toUInt32 >>> ((1 : Int32) &&& 31).toUInt32).toInt32) &&& (255 : Int32))), .val (.int (1 : Int32)), .val (.ref b348), .val (.ref b375), .val (.ref b375), .val (.int (1 : Int32)), .val (.ref b375), .val (.ref b375)] [])) _
        refine XS.aload X486.here hx rfl (hb hby at_273) rfl rfl ?_
        show Steps p.tables e below (T486.setTop (mkF m 275 #[.val (.int p0), .val (.int p1), .val (.int p2), .val (.int p3), .val (.int ((p0 &&& (7 : Int32)) + (1 : Int32))), .val (.int ((p1 &&& (2147483647 : Int32)) % ((p0 &&& (7 : Int32)) + (1 : Int32)))), .val (.int ((p2 &&& (2147483647 : Int32)) % ((p0 &&& (7 : Int32)) + (1 : Int32)))), .val (.int (((p3.toUInt32 >>> ((1 : Int32) &&& 31).toUInt32).toInt32) &&& (255 : Int32))), .val (.int (1 : Int32)), .val (.ref b348), .val (.ref b375), .val (.ref b375), .val (.int (1 : Int32)), .val (.ref b375), .val (.ref b375)] [(.ref b348)])) _
        refine st488 _ ?_
        show Steps p.tables e below (T488.setTop (mkF m 278 #[.val (.int p0), .val (.int p1), .val (.int p2), .val (.int p3), .val (.int ((p0 &&& (7 : Int32)) + (1 : Int32))), .val (.int ((p1 &&& (2147483647 : Int32)) % ((p0 &&& (7 : Int32)) + (1 : Int32)))), .val (.int ((p2 &&& (2147483647 : Int32)) % ((p0 &&& (7 : Int32)) + (1 : Int32)))), .val (.int (((p3.toUInt32 >>> ((1 : Int32) &&& 31).toUInt32).toInt32) &&& (255 : Int32))), .val (.int (1 : Int32)), .val (.ref b348), .val (.ref b375), .val (.ref b375), .val (.int (1 : Int32)), .val (.ref b375), .val (.ref b375)] [(.ref b68_373)])) _
        refine XS.iload X488.here hx rfl (hb hby at_278) rfl ?_
        show Steps p.tables e below (T488.setTop (mkF m 280 #[.val (.int p0), .val (.int p1), .val (.int p2), .val (.int p3), .val (.int ((p0 &&& (7 : Int32)) + (1 : Int32))), .val (.int ((p1 &&& (2147483647 : Int32)) % ((p0 &&& (7 : Int32)) + (1 : Int32)))), .val (.int ((p2 &&& (2147483647 : Int32)) % ((p0 &&& (7 : Int32)) + (1 : Int32)))), .val (.int (((p3.toUInt32 >>> ((1 : Int32) &&& 31).toUInt32).toInt32) &&& (255 : Int32))), .val (.int (1 : Int32)), .val (.ref b348), .val (.ref b375), .val (.ref b375), .val (.int (1 : Int32)), .val (.ref b375), .val (.ref b375)] [(.int ((p2 &&& (2147483647 : Int32)) % ((p0 &&& (7 : Int32)) + (1 : Int32)))), (.ref b68_373)])) _
        refine X488.aaload hx (j := ((p2 &&& (2147483647 : Int32)) % ((p0 &&& (7 : Int32)) + (1 : Int32)))) (v := (.ref b375)) (by rw [e488]; exact Ar490.1) (State.isArrayOf_alike hZ.alike Ar490.2.1) rfl Ar490.2.2 hin490 hat490 (g := (mkF m 280 #[.val (.int p0), .val (.int p1), .val (.int p2), .val (.int p3), .val (.int ((p0 &&& (7 : Int32)) + (1 : Int32))), .val (.int ((p1 &&& (2147483647 : Int32)) % ((p0 &&& (7 : Int32)) + (1 : Int32)))), .val (.int ((p2 &&& (2147483647 : Int32)) % ((p0 &&& (7 : Int32)) + (1 : Int32)))), .val (.int (((p3.toUInt32 >>> ((1 : Int32) &&& 31).toUInt32).toInt32) &&& (255 : Int32))), .val (.int (1 : Int32)), .val (.ref b348), .val (.ref b375), .val (.ref b375), .val (.int (1 : Int32)), .val (.ref b375), .val (.ref b375)] [(.int ((p2 &&& (2147483647 : Int32)) % ((p0 &&& (7 : Int32)) + (1 : Int32)))), (.ref b68_373)])) rfl rfl (hb hby at_280) _ ?_
        show Steps p.tables e below (T488.setTop (mkF m 281 #[.val (.int p0), .val (.int p1), .val (.int p2), .val (.int p3), .val (.int ((p0 &&& (7 : Int32)) + (1 : Int32))), .val (.int ((p1 &&& (2147483647 : Int32)) % ((p0 &&& (7 : Int32)) + (1 : Int32)))), .val (.int ((p2 &&& (2147483647 : Int32)) % ((p0 &&& (7 : Int32)) + (1 : Int32)))), .val (.int (((p3.toUInt32 >>> ((1 : Int32) &&& 31).toUInt32).toInt32) &&& (255 : Int32))), .val (.int (1 : Int32)), .val (.ref b348), .val (.ref b375), .val (.ref b375), .val (.int (1 : Int32)), .val (.ref b375), .val (.ref b375)] [(.ref b375)])) _
        refine XS.aload X488.here hx rfl (hb hby at_281) rfl rfl ?_
        show Steps p.tables e below (T488.setTop (mkF m 283 #[.val (.int p0), .val (.int p1), .val (.int p2), .val (.int p3), .val (.int ((p0 &&& (7 : Int32)) + (1 : Int32))), .val (.int ((p1 &&& (2147483647 : Int32)) % ((p0 &&& (7 : Int32)) + (1 : Int32)))), .val (.int ((p2 &&& (2147483647 : Int32)) % ((p0 &&& (7 : Int32)) + (1 : Int32)))), .val (.int (((p3.toUInt32 >>> ((1 : Int32) &&& 31).toUInt32).toInt32) &&& (255 : Int32))), .val (.int (1 : Int32)), .val (.ref b348), .val (.ref b375), .val (.ref b375), .val (.int (1 : Int32)), .val (.ref b375), .val (.ref b375)] [(.ref b375), (.ref b375)])) _
        refine Jvm.RoadKit.acmp (g := (mkF m 283 #[.val (.int p0), .val (.int p1), .val (.int p2), .val (.int p3), .val (.int ((p0 &&& (7 : Int32)) + (1 : Int32))), .val (.int ((p1 &&& (2147483647 : Int32)) % ((p0 &&& (7 : Int32)) + (1 : Int32)))), .val (.int ((p2 &&& (2147483647 : Int32)) % ((p0 &&& (7 : Int32)) + (1 : Int32)))), .val (.int (((p3.toUInt32 >>> ((1 : Int32) &&& 31).toUInt32).toInt32) &&& (255 : Int32))), .val (.int (1 : Int32)), .val (.ref b348), .val (.ref b375), .val (.ref b375), .val (.int (1 : Int32)), .val (.ref b375), .val (.ref b375)] [(.ref b375), (.ref b375)])) X488 hx rfl rfl rfl (pc0 := 283) (pc' := 286) (same := true) rfl (hb hby at_283) rfl (decide_eq_true (congrArg Value.ref rfl)) (by decide) (by decide) ?_
        show Steps p.tables e below (T488.setTop (mkF m 286 #[.val (.int p0), .val (.int p1), .val (.int p2), .val (.int p3), .val (.int ((p0 &&& (7 : Int32)) + (1 : Int32))), .val (.int ((p1 &&& (2147483647 : Int32)) % ((p0 &&& (7 : Int32)) + (1 : Int32)))), .val (.int ((p2 &&& (2147483647 : Int32)) % ((p0 &&& (7 : Int32)) + (1 : Int32)))), .val (.int (((p3.toUInt32 >>> ((1 : Int32) &&& 31).toUInt32).toInt32) &&& (255 : Int32))), .val (.int (1 : Int32)), .val (.ref b348), .val (.ref b375), .val (.ref b375), .val (.int (1 : Int32)), .val (.ref b375), .val (.ref b375)] [])) _
        refine XS.iload X488.here hx rfl (hb hby at_286) rfl ?_
        show Steps p.tables e below (T488.setTop (mkF m 288 #[.val (.int p0), .val (.int p1), .val (.int p2), .val (.int p3), .val (.int ((p0 &&& (7 : Int32)) + (1 : Int32))), .val (.int ((p1 &&& (2147483647 : Int32)) % ((p0 &&& (7 : Int32)) + (1 : Int32)))), .val (.int ((p2 &&& (2147483647 : Int32)) % ((p0 &&& (7 : Int32)) + (1 : Int32)))), .val (.int (((p3.toUInt32 >>> ((1 : Int32) &&& 31).toUInt32).toInt32) &&& (255 : Int32))), .val (.int (1 : Int32)), .val (.ref b348), .val (.ref b375), .val (.ref b375), .val (.int (1 : Int32)), .val (.ref b375), .val (.ref b375)] [(.int ((p2 &&& (2147483647 : Int32)) % ((p0 &&& (7 : Int32)) + (1 : Int32))))])) _
        refine XS.iload X488.here hx rfl (hb hby at_288) rfl ?_
        show Steps p.tables e below (T488.setTop (mkF m 290 #[.val (.int p0), .val (.int p1), .val (.int p2), .val (.int p3), .val (.int ((p0 &&& (7 : Int32)) + (1 : Int32))), .val (.int ((p1 &&& (2147483647 : Int32)) % ((p0 &&& (7 : Int32)) + (1 : Int32)))), .val (.int ((p2 &&& (2147483647 : Int32)) % ((p0 &&& (7 : Int32)) + (1 : Int32)))), .val (.int (((p3.toUInt32 >>> ((1 : Int32) &&& 31).toUInt32).toInt32) &&& (255 : Int32))), .val (.int (1 : Int32)), .val (.ref b348), .val (.ref b375), .val (.ref b375), .val (.int (1 : Int32)), .val (.ref b375), .val (.ref b375)] [(.int ((p1 &&& (2147483647 : Int32)) % ((p0 &&& (7 : Int32)) + (1 : Int32)))), (.int ((p2 &&& (2147483647 : Int32)) % ((p0 &&& (7 : Int32)) + (1 : Int32))))])) _
        refine XS.icmpNo X488.here hx rfl (hb hby at_290) rfl (teq hc441).2 ?_
        show Steps p.tables e below (T488.setTop (mkF m 293 #[.val (.int p0), .val (.int p1), .val (.int p2), .val (.int p3), .val (.int ((p0 &&& (7 : Int32)) + (1 : Int32))), .val (.int ((p1 &&& (2147483647 : Int32)) % ((p0 &&& (7 : Int32)) + (1 : Int32)))), .val (.int ((p2 &&& (2147483647 : Int32)) % ((p0 &&& (7 : Int32)) + (1 : Int32)))), .val (.int (((p3.toUInt32 >>> ((1 : Int32) &&& 31).toUInt32).toInt32) &&& (255 : Int32))), .val (.int (1 : Int32)), .val (.ref b348), .val (.ref b375), .val (.ref b375), .val (.int (1 : Int32)), .val (.ref b375), .val (.ref b375)] [])) _
        refine XS.iconst X488.here hx rfl (hb hby at_293) ?_
        show Steps p.tables e below (T488.setTop (mkF m 294 #[.val (.int p0), .val (.int p1), .val (.int p2), .val (.int p3), .val (.int ((p0 &&& (7 : Int32)) + (1 : Int32))), .val (.int ((p1 &&& (2147483647 : Int32)) % ((p0 &&& (7 : Int32)) + (1 : Int32)))), .val (.int ((p2 &&& (2147483647 : Int32)) % ((p0 &&& (7 : Int32)) + (1 : Int32)))), .val (.int (((p3.toUInt32 >>> ((1 : Int32) &&& 31).toUInt32).toInt32) &&& (255 : Int32))), .val (.int (1 : Int32)), .val (.ref b348), .val (.ref b375), .val (.ref b375), .val (.int (1 : Int32)), .val (.ref b375), .val (.ref b375)] [(.int (1 : Int32))])) _
        refine XS.goto X488.here hx rfl (pc0 := 294) (pc' := 298) rfl (hb hby at_294) (by decide) (by decide) ?_
        show Steps p.tables e below (T488.setTop (mkF m 298 #[.val (.int p0), .val (.int p1), .val (.int p2), .val (.int p3), .val (.int ((p0 &&& (7 : Int32)) + (1 : Int32))), .val (.int ((p1 &&& (2147483647 : Int32)) % ((p0 &&& (7 : Int32)) + (1 : Int32)))), .val (.int ((p2 &&& (2147483647 : Int32)) % ((p0 &&& (7 : Int32)) + (1 : Int32)))), .val (.int (((p3.toUInt32 >>> ((1 : Int32) &&& 31).toUInt32).toInt32) &&& (255 : Int32))), .val (.int (1 : Int32)), .val (.ref b348), .val (.ref b375), .val (.ref b375), .val (.int (1 : Int32)), .val (.ref b375), .val (.ref b375)] [(.int (1 : Int32))])) _
        refine XS.aload X488.here hx rfl (hb hby at_298) rfl rfl ?_
        show Steps p.tables e below (T488.setTop (mkF m 300 #[.val (.int p0), .val (.int p1), .val (.int p2), .val (.int p3), .val (.int ((p0 &&& (7 : Int32)) + (1 : Int32))), .val (.int ((p1 &&& (2147483647 : Int32)) % ((p0 &&& (7 : Int32)) + (1 : Int32)))), .val (.int ((p2 &&& (2147483647 : Int32)) % ((p0 &&& (7 : Int32)) + (1 : Int32)))), .val (.int (((p3.toUInt32 >>> ((1 : Int32) &&& 31).toUInt32).toInt32) &&& (255 : Int32))), .val (.int (1 : Int32)), .val (.ref b348), .val (.ref b375), .val (.ref b375), .val (.int (1 : Int32)), .val (.ref b375), .val (.ref b375)] [(.ref b375), (.int (1 : Int32))])) _
        refine XS.aload X488.here hx rfl (hb hby at_300) rfl rfl ?_
        show Steps p.tables e below (T488.setTop (mkF m 302 #[.val (.int p0), .val (.int p1), .val (.int p2), .val (.int p3), .val (.int ((p0 &&& (7 : Int32)) + (1 : Int32))), .val (.int ((p1 &&& (2147483647 : Int32)) % ((p0 &&& (7 : Int32)) + (1 : Int32)))), .val (.int ((p2 &&& (2147483647 : Int32)) % ((p0 &&& (7 : Int32)) + (1 : Int32)))), .val (.int (((p3.toUInt32 >>> ((1 : Int32) &&& 31).toUInt32).toInt32) &&& (255 : Int32))), .val (.int (1 : Int32)), .val (.ref b348), .val (.ref b375), .val (.ref b375), .val (.int (1 : Int32)), .val (.ref b375), .val (.ref b375)] [(.ref b375), (.ref b375), (.int (1 : Int32))])) _
        refine Jvm.RoadKit.acmp (g := (mkF m 302 #[.val (.int p0), .val (.int p1), .val (.int p2), .val (.int p3), .val (.int ((p0 &&& (7 : Int32)) + (1 : Int32))), .val (.int ((p1 &&& (2147483647 : Int32)) % ((p0 &&& (7 : Int32)) + (1 : Int32)))), .val (.int ((p2 &&& (2147483647 : Int32)) % ((p0 &&& (7 : Int32)) + (1 : Int32)))), .val (.int (((p3.toUInt32 >>> ((1 : Int32) &&& 31).toUInt32).toInt32) &&& (255 : Int32))), .val (.int (1 : Int32)), .val (.ref b348), .val (.ref b375), .val (.ref b375), .val (.int (1 : Int32)), .val (.ref b375), .val (.ref b375)] [(.ref b375), (.ref b375), (.int (1 : Int32))])) X488 hx rfl rfl rfl (pc0 := 302) (pc' := 305) (same := true) rfl (hb hby at_302) rfl (decide_eq_true (congrArg Value.ref rfl)) (by decide) (by decide) ?_
        show Steps p.tables e below (T488.setTop (mkF m 305 #[.val (.int p0), .val (.int p1), .val (.int p2), .val (.int p3), .val (.int ((p0 &&& (7 : Int32)) + (1 : Int32))), .val (.int ((p1 &&& (2147483647 : Int32)) % ((p0 &&& (7 : Int32)) + (1 : Int32)))), .val (.int ((p2 &&& (2147483647 : Int32)) % ((p0 &&& (7 : Int32)) + (1 : Int32)))), .val (.int (((p3.toUInt32 >>> ((1 : Int32) &&& 31).toUInt32).toInt32) &&& (255 : Int32))), .val (.int (1 : Int32)), .val (.ref b348), .val (.ref b375), .val (.ref b375), .val (.int (1 : Int32)), .val (.ref b375), .val (.ref b375)] [(.int (1 : Int32))])) _
        refine XS.iconst X488.here hx rfl (hb hby at_305) ?_
        show Steps p.tables e below (T488.setTop (mkF m 306 #[.val (.int p0), .val (.int p1), .val (.int p2), .val (.int p3), .val (.int ((p0 &&& (7 : Int32)) + (1 : Int32))), .val (.int ((p1 &&& (2147483647 : Int32)) % ((p0 &&& (7 : Int32)) + (1 : Int32)))), .val (.int ((p2 &&& (2147483647 : Int32)) % ((p0 &&& (7 : Int32)) + (1 : Int32)))), .val (.int (((p3.toUInt32 >>> ((1 : Int32) &&& 31).toUInt32).toInt32) &&& (255 : Int32))), .val (.int (1 : Int32)), .val (.ref b348), .val (.ref b375), .val (.ref b375), .val (.int (1 : Int32)), .val (.ref b375), .val (.ref b375)] [(.int (1 : Int32)), (.int (1 : Int32))])) _
        refine XS.goto X488.here hx rfl (pc0 := 306) (pc' := 310) rfl (hb hby at_306) (by decide) (by decide) ?_
        show Steps p.tables e below (T488.setTop (mkF m 310 #[.val (.int p0), .val (.int p1), .val (.int p2), .val (.int p3), .val (.int ((p0 &&& (7 : Int32)) + (1 : Int32))), .val (.int ((p1 &&& (2147483647 : Int32)) % ((p0 &&& (7 : Int32)) + (1 : Int32)))), .val (.int ((p2 &&& (2147483647 : Int32)) % ((p0 &&& (7 : Int32)) + (1 : Int32)))), .val (.int (((p3.toUInt32 >>> ((1 : Int32) &&& 31).toUInt32).toInt32) &&& (255 : Int32))), .val (.int (1 : Int32)), .val (.ref b348), .val (.ref b375), .val (.ref b375), .val (.int (1 : Int32)), .val (.ref b375), .val (.ref b375)] [(.int (1 : Int32)), (.int (1 : Int32))])) _
        refine XS.icmpNo X488.here hx rfl (hb hby at_310) rfl (teq (by decide : ((1 : Int32) = (1 : Int32)))).2 ?_
        show Steps p.tables e below (T488.setTop (mkF m 313 #[.val (.int p0), .val (.int p1), .val (.int p2), .val (.int p3), .val (.int ((p0 &&& (7 : Int32)) + (1 : Int32))), .val (.int ((p1 &&& (2147483647 : Int32)) % ((p0 &&& (7 : Int32)) + (1 : Int32)))), .val (.int ((p2 &&& (2147483647 : Int32)) % ((p0 &&& (7 : Int32)) + (1 : Int32)))), .val (.int (((p3.toUInt32 >>> ((1 : Int32) &&& 31).toUInt32).toInt32) &&& (255 : Int32))), .val (.int (1 : Int32)), .val (.ref b348), .val (.ref b375), .val (.ref b375), .val (.int (1 : Int32)), .val (.ref b375), .val (.ref b375)] [])) _
        refine XS.iconst X488.here hx rfl (hb hby at_313) ?_
        show Steps p.tables e below (T488.setTop (mkF m 314 #[.val (.int p0), .val (.int p1), .val (.int p2), .val (.int p3), .val (.int ((p0 &&& (7 : Int32)) + (1 : Int32))), .val (.int ((p1 &&& (2147483647 : Int32)) % ((p0 &&& (7 : Int32)) + (1 : Int32)))), .val (.int ((p2 &&& (2147483647 : Int32)) % ((p0 &&& (7 : Int32)) + (1 : Int32)))), .val (.int (((p3.toUInt32 >>> ((1 : Int32) &&& 31).toUInt32).toInt32) &&& (255 : Int32))), .val (.int (1 : Int32)), .val (.ref b348), .val (.ref b375), .val (.ref b375), .val (.int (1 : Int32)), .val (.ref b375), .val (.ref b375)] [(.int (1 : Int32))])) _
        refine XS.goto X488.here hx rfl (pc0 := 314) (pc' := 318) rfl (hb hby at_314) (by decide) (by decide) ?_
        show Steps p.tables e below (T488.setTop (mkF m 318 #[.val (.int p0), .val (.int p1), .val (.int p2), .val (.int p3), .val (.int ((p0 &&& (7 : Int32)) + (1 : Int32))), .val (.int ((p1 &&& (2147483647 : Int32)) % ((p0 &&& (7 : Int32)) + (1 : Int32)))), .val (.int ((p2 &&& (2147483647 : Int32)) % ((p0 &&& (7 : Int32)) + (1 : Int32)))), .val (.int (((p3.toUInt32 >>> ((1 : Int32) &&& 31).toUInt32).toInt32) &&& (255 : Int32))), .val (.int (1 : Int32)), .val (.ref b348), .val (.ref b375), .val (.ref b375), .val (.int (1 : Int32)), .val (.ref b375), .val (.ref b375)] [(.int (1 : Int32))])) _
        refine XS.istore X488.here hx rfl (hb hby at_318) rfl (l' := #[.val (.int p0), .val (.int p1), .val (.int p2), .val (.int p3), .val (.int ((p0 &&& (7 : Int32)) + (1 : Int32))), .val (.int ((p1 &&& (2147483647 : Int32)) % ((p0 &&& (7 : Int32)) + (1 : Int32)))), .val (.int ((p2 &&& (2147483647 : Int32)) % ((p0 &&& (7 : Int32)) + (1 : Int32)))), .val (.int (((p3.toUInt32 >>> ((1 : Int32) &&& 31).toUInt32).toInt32) &&& (255 : Int32))), .val (.int (1 : Int32)), .val (.ref b348), .val (.ref b375), .val (.ref b375), .val (.int (1 : Int32)), .val (.ref b375), .val (.ref b375)]) rfl ?_
        show Steps p.tables e below (T488.setTop (mkF m 320 #[.val (.int p0), .val (.int p1), .val (.int p2), .val (.int p3), .val (.int ((p0 &&& (7 : Int32)) + (1 : Int32))), .val (.int ((p1 &&& (2147483647 : Int32)) % ((p0 &&& (7 : Int32)) + (1 : Int32)))), .val (.int ((p2 &&& (2147483647 : Int32)) % ((p0 &&& (7 : Int32)) + (1 : Int32)))), .val (.int (((p3.toUInt32 >>> ((1 : Int32) &&& 31).toUInt32).toInt32) &&& (255 : Int32))), .val (.int (1 : Int32)), .val (.ref b348), .val (.ref b375), .val (.ref b375), .val (.int (1 : Int32)), .val (.ref b375), .val (.ref b375)] [])) _
        refine XS.iload X488.here hx rfl (hb hby at_320) rfl ?_
        show Steps p.tables e below (T488.setTop (mkF m 322 #[.val (.int p0), .val (.int p1), .val (.int p2), .val (.int p3), .val (.int ((p0 &&& (7 : Int32)) + (1 : Int32))), .val (.int ((p1 &&& (2147483647 : Int32)) % ((p0 &&& (7 : Int32)) + (1 : Int32)))), .val (.int ((p2 &&& (2147483647 : Int32)) % ((p0 &&& (7 : Int32)) + (1 : Int32)))), .val (.int (((p3.toUInt32 >>> ((1 : Int32) &&& 31).toUInt32).toInt32) &&& (255 : Int32))), .val (.int (1 : Int32)), .val (.ref b348), .val (.ref b375), .val (.ref b375), .val (.int (1 : Int32)), .val (.ref b375), .val (.ref b375)] [(.int (1 : Int32))])) _
        refine XS.ifNo X488.here hx rfl (hb hby at_322) rfl ((if0 _ _).trans (feq (by decide : ¬ ((1 : Int32) = (0 : Int32)))).1) ?_
        show Steps p.tables e below (T488.setTop (mkF m 325 #[.val (.int p0), .val (.int p1), .val (.int p2), .val (.int p3), .val (.int ((p0 &&& (7 : Int32)) + (1 : Int32))), .val (.int ((p1 &&& (2147483647 : Int32)) % ((p0 &&& (7 : Int32)) + (1 : Int32)))), .val (.int ((p2 &&& (2147483647 : Int32)) % ((p0 &&& (7 : Int32)) + (1 : Int32)))), .val (.int (((p3.toUInt32 >>> ((1 : Int32) &&& 31).toUInt32).toInt32) &&& (255 : Int32))), .val (.int (1 : Int32)), .val (.ref b348), .val (.ref b375), .val (.ref b375), .val (.int (1 : Int32)), .val (.ref b375), .val (.ref b375)] [])) _
        refine XS.aload X488.here hx rfl (hb hby at_325) rfl rfl ?_
        show Steps p.tables e below (T488.setTop (mkF m 327 #[.val (.int p0), .val (.int p1), .val (.int p2), .val (.int p3), .val (.int ((p0 &&& (7 : Int32)) + (1 : Int32))), .val (.int ((p1 &&& (2147483647 : Int32)) % ((p0 &&& (7 : Int32)) + (1 : Int32)))), .val (.int ((p2 &&& (2147483647 : Int32)) % ((p0 &&& (7 : Int32)) + (1 : Int32)))), .val (.int (((p3.toUInt32 >>> ((1 : Int32) &&& 31).toUInt32).toInt32) &&& (255 : Int32))), .val (.int (1 : Int32)), .val (.ref b348), .val (.ref b375), .val (.ref b375), .val (.int (1 : Int32)), .val (.ref b375), .val (.ref b375)] [(.ref b348)])) _
        refine st491 _ ?_
        show Steps p.tables e below (T491.setTop (mkF m 330 #[.val (.int p0), .val (.int p1), .val (.int p2), .val (.int p3), .val (.int ((p0 &&& (7 : Int32)) + (1 : Int32))), .val (.int ((p1 &&& (2147483647 : Int32)) % ((p0 &&& (7 : Int32)) + (1 : Int32)))), .val (.int ((p2 &&& (2147483647 : Int32)) % ((p0 &&& (7 : Int32)) + (1 : Int32)))), .val (.int (((p3.toUInt32 >>> ((1 : Int32) &&& 31).toUInt32).toInt32) &&& (255 : Int32))), .val (.int (1 : Int32)), .val (.ref b348), .val (.ref b375), .val (.ref b375), .val (.int (1 : Int32)), .val (.ref b375), .val (.ref b375)] [(.ref b68_373)])) _
        refine XS.iload X491.here hx rfl (hb hby at_330) rfl ?_
        show Steps p.tables e below (T491.setTop (mkF m 332 #[.val (.int p0), .val (.int p1), .val (.int p2), .val (.int p3), .val (.int ((p0 &&& (7 : Int32)) + (1 : Int32))), .val (.int ((p1 &&& (2147483647 : Int32)) % ((p0 &&& (7 : Int32)) + (1 : Int32)))), .val (.int ((p2 &&& (2147483647 : Int32)) % ((p0 &&& (7 : Int32)) + (1 : Int32)))), .val (.int (((p3.toUInt32 >>> ((1 : Int32) &&& 31).toUInt32).toInt32) &&& (255 : Int32))), .val (.int (1 : Int32)), .val (.ref b348), .val (.ref b375), .val (.ref b375), .val (.int (1 : Int32)), .val (.ref b375), .val (.ref b375)] [(.int ((p1 &&& (2147483647 : Int32)) % ((p0 &&& (7 : Int32)) + (1 : Int32)))), (.ref b68_373)])) _
        refine X491.aaload hx (j := ((p1 &&& (2147483647 : Int32)) % ((p0 &&& (7 : Int32)) + (1 : Int32)))) (v := (.ref b375)) (by rw [e491]; exact Ar492.1) (State.isArrayOf_alike hZ.alike Ar492.2.1) rfl Ar492.2.2 hin492 hat492 (g := (mkF m 332 #[.val (.int p0), .val (.int p1), .val (.int p2), .val (.int p3), .val (.int ((p0 &&& (7 : Int32)) + (1 : Int32))), .val (.int ((p1 &&& (2147483647 : Int32)) % ((p0 &&& (7 : Int32)) + (1 : Int32)))), .val (.int ((p2 &&& (2147483647 : Int32)) % ((p0 &&& (7 : Int32)) + (1 : Int32)))), .val (.int (((p3.toUInt32 >>> ((1 : Int32) &&& 31).toUInt32).toInt32) &&& (255 : Int32))), .val (.int (1 : Int32)), .val (.ref b348), .val (.ref b375), .val (.ref b375), .val (.int (1 : Int32)), .val (.ref b375), .val (.ref b375)] [(.int ((p1 &&& (2147483647 : Int32)) % ((p0 &&& (7 : Int32)) + (1 : Int32)))), (.ref b68_373)])) rfl rfl (hb hby at_332) _ ?_
        show Steps p.tables e below (T491.setTop (mkF m 333 #[.val (.int p0), .val (.int p1), .val (.int p2), .val (.int p3), .val (.int ((p0 &&& (7 : Int32)) + (1 : Int32))), .val (.int ((p1 &&& (2147483647 : Int32)) % ((p0 &&& (7 : Int32)) + (1 : Int32)))), .val (.int ((p2 &&& (2147483647 : Int32)) % ((p0 &&& (7 : Int32)) + (1 : Int32)))), .val (.int (((p3.toUInt32 >>> ((1 : Int32) &&& 31).toUInt32).toInt32) &&& (255 : Int32))), .val (.int (1 : Int32)), .val (.ref b348), .val (.ref b375), .val (.ref b375), .val (.int (1 : Int32)), .val (.ref b375), .val (.ref b375)] [(.ref b375)])) _
        refine XS.aload X491.here hx rfl (hb hby at_333) rfl rfl ?_
        show Steps p.tables e below (T491.setTop (mkF m 335 #[.val (.int p0), .val (.int p1), .val (.int p2), .val (.int p3), .val (.int ((p0 &&& (7 : Int32)) + (1 : Int32))), .val (.int ((p1 &&& (2147483647 : Int32)) % ((p0 &&& (7 : Int32)) + (1 : Int32)))), .val (.int ((p2 &&& (2147483647 : Int32)) % ((p0 &&& (7 : Int32)) + (1 : Int32)))), .val (.int (((p3.toUInt32 >>> ((1 : Int32) &&& 31).toUInt32).toInt32) &&& (255 : Int32))), .val (.int (1 : Int32)), .val (.ref b348), .val (.ref b375), .val (.ref b375), .val (.int (1 : Int32)), .val (.ref b375), .val (.ref b375)] [(.ref b375), (.ref b375)])) _
        refine Jvm.RoadKit.acmp (g := (mkF m 335 #[.val (.int p0), .val (.int p1), .val (.int p2), .val (.int p3), .val (.int ((p0 &&& (7 : Int32)) + (1 : Int32))), .val (.int ((p1 &&& (2147483647 : Int32)) % ((p0 &&& (7 : Int32)) + (1 : Int32)))), .val (.int ((p2 &&& (2147483647 : Int32)) % ((p0 &&& (7 : Int32)) + (1 : Int32)))), .val (.int (((p3.toUInt32 >>> ((1 : Int32) &&& 31).toUInt32).toInt32) &&& (255 : Int32))), .val (.int (1 : Int32)), .val (.ref b348), .val (.ref b375), .val (.ref b375), .val (.int (1 : Int32)), .val (.ref b375), .val (.ref b375)] [(.ref b375), (.ref b375)])) X491 hx rfl rfl rfl (pc0 := 335) (pc' := 338) (same := true) rfl (hb hby at_335) rfl (decide_eq_true (congrArg Value.ref rfl)) (by decide) (by decide) ?_
        show Steps p.tables e below (T491.setTop (mkF m 338 #[.val (.int p0), .val (.int p1), .val (.int p2), .val (.int p3), .val (.int ((p0 &&& (7 : Int32)) + (1 : Int32))), .val (.int ((p1 &&& (2147483647 : Int32)) % ((p0 &&& (7 : Int32)) + (1 : Int32)))), .val (.int ((p2 &&& (2147483647 : Int32)) % ((p0 &&& (7 : Int32)) + (1 : Int32)))), .val (.int (((p3.toUInt32 >>> ((1 : Int32) &&& 31).toUInt32).toInt32) &&& (255 : Int32))), .val (.int (1 : Int32)), .val (.ref b348), .val (.ref b375), .val (.ref b375), .val (.int (1 : Int32)), .val (.ref b375), .val (.ref b375)] [])) _
        refine XS.iconst X491.here hx rfl (hb hby at_338) ?_
        show Steps p.tables e below (T491.setTop (mkF m 339 #[.val (.int p0), .val (.int p1), .val (.int p2), .val (.int p3), .val (.int ((p0 &&& (7 : Int32)) + (1 : Int32))), .val (.int ((p1 &&& (2147483647 : Int32)) % ((p0 &&& (7 : Int32)) + (1 : Int32)))), .val (.int ((p2 &&& (2147483647 : Int32)) % ((p0 &&& (7 : Int32)) + (1 : Int32)))), .val (.int (((p3.toUInt32 >>> ((1 : Int32) &&& 31).toUInt32).toInt32) &&& (255 : Int32))), .val (.int (1 : Int32)), .val (.ref b348), .val (.ref b375), .val (.ref b375), .val (.int (1 : Int32)), .val (.ref b375), .val (.ref b375)] [(.int (1 : Int32))])) _
        refine XS.goto X491.here hx rfl (pc0 := 339) (pc' := 343) rfl (hb hby at_339) (by decide) (by decide) ?_
        show Steps p.tables e below (T491.setTop (mkF m 343 #[.val (.int p0), .val (.int p1), .val (.int p2), .val (.int p3), .val (.int ((p0 &&& (7 : Int32)) + (1 : Int32))), .val (.int ((p1 &&& (2147483647 : Int32)) % ((p0 &&& (7 : Int32)) + (1 : Int32)))), .val (.int ((p2 &&& (2147483647 : Int32)) % ((p0 &&& (7 : Int32)) + (1 : Int32)))), .val (.int (((p3.toUInt32 >>> ((1 : Int32) &&& 31).toUInt32).toInt32) &&& (255 : Int32))), .val (.int (1 : Int32)), .val (.ref b348), .val (.ref b375), .val (.ref b375), .val (.int (1 : Int32)), .val (.ref b375), .val (.ref b375)] [(.int (1 : Int32))])) _
        refine XS.istore X491.here hx rfl (hb hby at_343) rfl (l' := #[.val (.int p0), .val (.int p1), .val (.int p2), .val (.int p3), .val (.int ((p0 &&& (7 : Int32)) + (1 : Int32))), .val (.int ((p1 &&& (2147483647 : Int32)) % ((p0 &&& (7 : Int32)) + (1 : Int32)))), .val (.int ((p2 &&& (2147483647 : Int32)) % ((p0 &&& (7 : Int32)) + (1 : Int32)))), .val (.int (((p3.toUInt32 >>> ((1 : Int32) &&& 31).toUInt32).toInt32) &&& (255 : Int32))), .val (.int (1 : Int32)), .val (.ref b348), .val (.ref b375), .val (.ref b375), .val (.int (1 : Int32)), .val (.ref b375), .val (.ref b375)]) rfl ?_
        show Steps p.tables e below (T491.setTop (mkF m 345 #[.val (.int p0), .val (.int p1), .val (.int p2), .val (.int p3), .val (.int ((p0 &&& (7 : Int32)) + (1 : Int32))), .val (.int ((p1 &&& (2147483647 : Int32)) % ((p0 &&& (7 : Int32)) + (1 : Int32)))), .val (.int ((p2 &&& (2147483647 : Int32)) % ((p0 &&& (7 : Int32)) + (1 : Int32)))), .val (.int (((p3.toUInt32 >>> ((1 : Int32) &&& 31).toUInt32).toInt32) &&& (255 : Int32))), .val (.int (1 : Int32)), .val (.ref b348), .val (.ref b375), .val (.ref b375), .val (.int (1 : Int32)), .val (.ref b375), .val (.ref b375)] [])) _
        refine XS.iload X491.here hx rfl (hb hby at_345) rfl ?_
        show Steps p.tables e below (T491.setTop (mkF m 347 #[.val (.int p0), .val (.int p1), .val (.int p2), .val (.int p3), .val (.int ((p0 &&& (7 : Int32)) + (1 : Int32))), .val (.int ((p1 &&& (2147483647 : Int32)) % ((p0 &&& (7 : Int32)) + (1 : Int32)))), .val (.int ((p2 &&& (2147483647 : Int32)) % ((p0 &&& (7 : Int32)) + (1 : Int32)))), .val (.int (((p3.toUInt32 >>> ((1 : Int32) &&& 31).toUInt32).toInt32) &&& (255 : Int32))), .val (.int (1 : Int32)), .val (.ref b348), .val (.ref b375), .val (.ref b375), .val (.int (1 : Int32)), .val (.ref b375), .val (.ref b375)] [(.int (1 : Int32))])) _
        exact retN X491 hx (t := .boolean) Bd.returns (by simp) (hb hby at_347) hr
      · show Q0 Z p0 p1 p2 p3 h0 n0 _ T491.heap _
        rw [e491]
        exact ⟨by unfold sp0; rw [if_neg hc2, if_pos hc441], N486, trivial⟩
    · obtain ⟨T493, X493, e493, st493⟩ := getF X437 hx hZ hown (host := "") (Or.inl (hw _ (tk 80 rfl))) Via.refl e437 c436 (g := (mkF m 210 #[.val (.int p0), .val (.int p1), .val (.int p2), .val (.int p3), .val (.int ((p0 &&& (7 : Int32)) + (1 : Int32))), .val (.int ((p1 &&& (2147483647 : Int32)) % ((p0 &&& (7 : Int32)) + (1 : Int32)))), .val (.int ((p2 &&& (2147483647 : Int32)) % ((p0 &&& (7 : Int32)) + (1 : Int32)))), .val (.int (((p3.toUInt32 >>> ((1 : Int32) &&& 31).toUInt32).toInt32) &&& (255 : Int32))), .val (.int (1 : Int32)), .val (.ref b348), .val (.ref b375), .val (.ref b375), .val (.int (1 : Int32)), .val (.ref b375), .unset] [(.ref b348)])) rfl rfl (hb hby at_210)
      obtain ⟨cl494, Ar494, qa494, Sa494, Ma494, Ha494, Ga494⟩ := id c438
      have hin494 : ¬ (((p2 &&& (2147483647 : Int32)) % ((p0 &&& (7 : Int32)) + (1 : Int32))) < 0 ∨ cl494.slots.size ≤ (((p2 &&& (2147483647 : Int32)) % ((p0 &&& (7 : Int32)) + (1 : Int32)))).toNatClampNeg) := by exact inb_of Sa494 ⟨fk3, fk5⟩
      have hat494 : cl494.slots[(((p2 &&& (2147483647 : Int32)) % ((p0 &&& (7 : Int32)) + (1 : Int32)))).toNatClampNeg]? = some .null := atH Ha494 hin494 (getH_miss fk3 hc441 rfl)
      have c495 := (c421.keep K435c)
      have c496 := ((((c378.keep K376c).wr W388).keep K409c).keep K435c)
      have c497 := ((((c380.keep K376c).wr W388).keep K409c).keep K435c)
      have c498 := ((((c381.keep K376c).wr W388).keep K409c).keep K435c)
      have c499 := ((((c382.keep K376c).wr W388).keep K409c).keep K435c)
      have c500 := (c422.keep K435c)
      have c501 := (c430.keep K435c)
      have c502 := (c434.keep K435c nin0)
      have c503 := (c425.keep K435c)
      have c504 := (c429.keep K435c nin0)
      obtain ⟨T505, h505, k505, X505, e505, E505, A505, st505⟩ := newP X493 hx hZ (hw _ (tk 87 rfl)) e493 (g := (mkF m 234 #[.val (.int p0), .val (.int p1), .val (.int p2), .val (.int p3), .val (.int ((p0 &&& (7 : Int32)) + (1 : Int32))), .val (.int ((p1 &&& (2147483647 : Int32)) % ((p0 &&& (7 : Int32)) + (1 : Int32)))), .val (.int ((p2 &&& (2147483647 : Int32)) % ((p0 &&& (7 : Int32)) + (1 : Int32)))), .val (.int (((p3.toUInt32 >>> ((1 : Int32) &&& 31).toUInt32).toInt32) &&& (255 : Int32))), .val (.int (1 : Int32)), .val (.ref b348), .val (.ref b375), .val (.ref b375), .val (.int (1 : Int32)), .val (.ref b375), .unset] [(.int (1 : Int32)), (.ref b375)])) rfl (hb hby at_234) rfl (by decide) (cap := 1) (by decide) (by decide) (by decide) (by decide)
      obtain ⟨b505, g505⟩ : ∃ z, z = T435.heap.size := ⟨_, rfl⟩
      rw [← g505] at A505 st505
      have g_b505 : n0 ≤ b505 := Nat.le_trans (own_old O435) (Nat.le_of_eq g505.symm)
      have ne_b348_b505 : b348 ≠ b505 := Nat.ne_of_lt (Nat.lt_of_lt_of_le c495.lt (Nat.le_of_eq g505.symm))
      have ne_b40_373_b505 : b40_373 ≠ b505 := Nat.ne_of_lt (Nat.lt_of_lt_of_le c496.lt (Nat.le_of_eq g505.symm))
      have ne_b68_373_b505 : b68_373 ≠ b505 := Nat.ne_of_lt (Nat.lt_of_lt_of_le c438.lt (Nat.le_of_eq g505.symm))
      have ne_b47_373_b505 : b47_373 ≠ b505 := Nat.ne_of_lt (Nat.lt_of_lt_of_le c497.lt (Nat.le_of_eq g505.symm))
      have ne_b17_48_373_b505 : b17_48_373 ≠ b505 := Nat.ne_of_lt (Nat.lt_of_lt_of_le c498.lt (Nat.le_of_eq g505.symm))
      have ne_b58_373_b505 : b58_373 ≠ b505 := Nat.ne_of_lt (Nat.lt_of_lt_of_le c499.lt (Nat.le_of_eq g505.symm))
      have ne_b375_b505 : b375 ≠ b505 := Nat.ne_of_lt (Nat.lt_of_lt_of_le c500.lt (Nat.le_of_eq g505.symm))
      have ne_b94_376_b505 : b94_376 ≠ b505 := Nat.ne_of_lt (Nat.lt_of_lt_of_le c501.lt (Nat.le_of_eq g505.symm))
      have ne_b101_111_117_376_b505 : b101_111_117_376 ≠ b505 := Nat.ne_of_lt (Nat.lt_of_lt_of_le c502.lt (Nat.le_of_eq g505.symm))
      have ne_b125_376_b505 : b125_376 ≠ b505 := Nat.ne_of_lt (Nat.lt_of_lt_of_le c503.lt (Nat.le_of_eq g505.symm))
      have ne_b101_111_126_376_b505 : b101_111_126_376 ≠ b505 := Nat.ne_of_lt (Nat.lt_of_lt_of_le c504.lt (Nat.le_of_eq g505.symm))
      have O505 : Old Z n0 h505 := O435.ext E505
      have V_b505 : Arv Z h505 b505 k505 .int (1 : Int32) [(.int (0 : Int32))] (.int (0 : Int32)) := (Arv.new A505 (by decide)).pad (pad_rep [] (.int (0 : Int32)) 1)
      obtain ⟨cl506, Ar506, qa506, Sa506, Ma506, Ha506, Ga506⟩ := id V_b505
      have hin506 : ¬ ((0 : Int32) < 0 ∨ cl506.slots.size ≤ ((0 : Int32)).toNatClampNeg) := by exact inb_of Sa506 ⟨by decide, by decide⟩
      obtain ⟨T507, h507, X507, e507, W507, st507⟩ := stI X505 hx hZ e505 Ar506 (j := (0 : Int32)) hin506 (g := (mkF m 240 #[.val (.int p0), .val (.int p1), .val (.int p2), .val (.int p3), .val (.int ((p0 &&& (7 : Int32)) + (1 : Int32))), .val (.int ((p1 &&& (2147483647 : Int32)) % ((p0 &&& (7 : Int32)) + (1 : Int32)))), .val (.int ((p2 &&& (2147483647 : Int32)) % ((p0 &&& (7 : Int32)) + (1 : Int32)))), .val (.int (((p3.toUInt32 >>> ((1 : Int32) &&& 31).toUInt32).toInt32) &&& (255 : Int32))), .val (.int (1 : Int32)), .val (.ref b348), .val (.ref b375), .val (.ref b375), .val (.int (1 : Int32)), .val (.ref b375), .unset] [(.int (((p3.toUInt32 >>> ((1 : Int32) &&& 31).toUInt32).toInt32) &&& (255 : Int32))), (.int (0 : Int32)), (.ref b505), (.ref b505), (.ref b375)])) rfl rfl (hb hby at_240)
      have V_b505_507 : Arv Z h507 b505 k505 .int (1 : Int32) [(.int (((p3.toUInt32 >>> ((1 : Int32) &&& 31).toUInt32).toInt32) &&& (255 : Int32)))] (.int (0 : Int32)) := Arv.set Ar506 qa506 Sa506 Ma506 Ha506 Ga506 rfl W507 0 rfl (Nat.le_of_ble_eq_true rfl)
      have O507 : Old Z n0 h507 := O505.wr W507 g_b505
      have N507 := Fr.snoc X507 N435 g_b505
      have c517 := ((c500.ext E505).wr W507)
      have c518 := (((c423.keep K435c nin0).ext E505).other W507 (Or.inl ne_b375_b505))
      have c519 := (((c424.keep K435c nin0).ext E505).other W507 (Or.inl ne_b375_b505))
      have c520 := ((c503.ext E505).wr W507)
      have c521 := (((c427.keep K435c nin0).ext E505).other W507 (Or.inl ne_b125_376_b505))
      have c522 := (((c428.keep K435c nin0).ext E505).other W507 (Or.inl ne_b125_376_b505))
      have c523 := ((c504.ext E505).other W507 ne_b101_111_126_376_b505)
      have c524 := ((c501.ext E505).wr W507)
      have c525 := (((c432.keep K435c nin0).ext E505).other W507 (Or.inl ne_b94_376_b505))
      have c526 := (((c433.keep K435c nin0).ext E505).other W507 (Or.inl ne_b94_376_b505))
      have c527 := ((c502.ext E505).other W507 ne_b101_111_117_376_b505)
      obtain ⟨cq528, kq528, q528a, q528b, q528c⟩ := isOf hZ e507 c517
      obtain ⟨_, _, ⟨T528, L528, k528, n528⟩, -, X528, ⟨Lc528, hQ528, l528, y528, z528⟩, st528⟩ := X507.virtualBack hx (y := Y11) (z := Y11) hown (mvT hZ (hw _ (tk 88 rfl))) (mvT hZ (hw _ (tk 89 rfl))) (notFace_of_selects (args := #[]) (mvT hZ (hw _ (tk 91 rfl)))) (mvT hZ (hw _ (tk 91 rfl))) (mvT hZ (hw _ (tk 90 rfl))) (by decide) (backOf (W := 0) (rm11x1 l Z a0 hw [] hS0 b375 b505 b125_376 b101_111_126_376 b94_376 b101_111_117_376 k101_111_126_376 k101_111_117_376 k505 (((p3.toUInt32 >>> ((1 : Int32) &&& 31).toUInt32).toInt32) &&& (255 : Int32)) h507 n0 O507 g_b375 g_b125_376 g_b101_111_126_376 g_b94_376 g_b101_111_117_376 g_b505 c517 c518 c519 c520 c521 c522 c523 c524 c525 c526 c527 V_b505_507 ne_b375_b125_376 ne_b375_b101_111_126_376 ne_b375_b94_376 ne_b375_b101_111_117_376 ne_b375_b505 Fx376_23 (Ne.symm Fx376_19) (Ne.symm Fx376_21) ne_b125_376_b505 (Ne.symm Fx376_20) (Ne.symm Fx376_22) ne_b101_111_126_376_b505 Fx376_18 ne_b94_376_b505 ne_b101_111_117_376_b505 (own_notbelow (own_rand ((p3.toUInt32 >>> ((1 : Int32) &&& 31).toUInt32).toInt32) (255 : Int32) 256 (by decide) (by decide)) (by decide)) (own_notbelow (own_rshr (((p3.toUInt32 >>> ((1 : Int32) &&& 31).toUInt32).toInt32) &&& (255 : Int32)) (6 : Int32) 6 4 (own_rand ((p3.toUInt32 >>> ((1 : Int32) &&& 31).toUInt32).toInt32) (255 : Int32) 256 (by decide) (by decide)) (by decide) (by decide)) (by decide))) hZ (hw _ (tk 92 rfl)) (hw _ (tk 49 rfl)) (by decide) (by decide)) q528a q528c (g := (mkF m 241 #[.val (.int p0), .val (.int p1), .val (.int p2), .val (.int p3), .val (.int ((p0 &&& (7 : Int32)) + (1 : Int32))), .val (.int ((p1 &&& (2147483647 : Int32)) % ((p0 &&& (7 : Int32)) + (1 : Int32)))), .val (.int ((p2 &&& (2147483647 : Int32)) % ((p0 &&& (7 : Int32)) + (1 : Int32)))), .val (.int (((p3.toUInt32 >>> ((1 : Int32) &&& 31).toUInt32).toInt32) &&& (255 : Int32))), .val (.int (1 : Int32)), .val (.ref b348), .val (.ref b375), .val (.ref b375), .val (.int (1 : Int32)), .val (.ref b375), .unset] [(.ref b505), (.ref b375)])) rfl (by rw [hml]; rfl) (Steps.refl _) (argsL := [(.ref b505)]) (rest := []) (lenOf pd_5 rfl) rfl (by show 2 * 0 + _ ≤ _; exact Nat.le_of_eq rfl) (hb hby at_241) (fun _ _ => ⟨rfl, e507, (by decide : 12 + 0 ≤ _), (by decide : 48 + 0 ≤ _)⟩)
      dsimp only [Pt.U, Pt.locs, Pt.cells, Pt.slots] at X528 l528 y528 z528 st528 hQ528
      subst l528 y528 z528
      obtain ⟨rv528, N528q, e528⟩ := hQ528
      subst rv528
      have N528 := Fr.app N507 N528q
      have c534 := ((c495.ext E505).wr W507)
      have c535 := ((c436.ext E505).other W507 (Or.inl ne_b348_b505))
      have c536 := ((c438.ext E505).other W507 ne_b68_373_b505)
      have c537 := (((c426.keep K435c nin0).ext E505).other W507 (Or.inl ne_b125_376_b505))
      have c538 := (((c431.keep K435c nin0).ext E505).other W507 (Or.inl ne_b94_376_b505))
      have c540 := ((c496.ext E505).wr W507)
      have c541 := ((c497.ext E505).wr W507)
      have c542 := ((c498.ext E505).wr W507)
      have c543 := ((c499.ext E505).wr W507)
      obtain ⟨cq539, kq539, q539a, q539b, q539c⟩ := isOf hZ e528 c534
      obtain ⟨_, _, ⟨T539, L539, k539, n539⟩, -, X539, ⟨Lc539, hQ539, l539, y539, z539⟩, st539⟩ := X528.virtualBack hx (y := Y8) (z := Y8) hown (mvT hZ (hw _ (tk 82 rfl))) (mvT hZ (hw _ (tk 83 rfl))) (notFace_of_selects (args := #[]) (mvT hZ (hw _ (tk 85 rfl)))) (mvT hZ (hw _ (tk 85 rfl))) (mvT hZ (hw _ (tk 84 rfl))) (by decide) (backOf (W := 0) (rm10x3 l Z a0 hw [] hS0 b348 ((p2 &&& (2147483647 : Int32)) % ((p0 &&& (7 : Int32)) + (1 : Int32))) b68_373 b375 b125_376 b101_111_126_376 b94_376 b101_111_117_376 k68_373 ((p0 &&& (7 : Int32)) + (1 : Int32)) ((p1 &&& (2147483647 : Int32)) % ((p0 &&& (7 : Int32)) + (1 : Int32))) k101_111_126_376 k101_111_117_376 h507 n0 O507 g_b348 g_b68_373 g_b375 g_b125_376 g_b101_111_126_376 g_b94_376 g_b101_111_117_376 c534 c535 Fx373_7 c536 c517 c518 c519 c520 c537 c521 c522 c523 c524 c538 c525 c526 c527 ne_b348_b68_373 ne_b348_b375 ne_b348_b125_376 ne_b348_b101_111_126_376 ne_b348_b94_376 ne_b348_b101_111_117_376 ne_b68_373_b375 ne_b68_373_b125_376 ne_b68_373_b101_111_126_376 ne_b68_373_b94_376 ne_b68_373_b101_111_117_376 ne_b375_b125_376 ne_b375_b101_111_126_376 ne_b375_b94_376 ne_b375_b101_111_117_376 Fx376_23 (Ne.symm Fx376_19) (Ne.symm Fx376_21) (Ne.symm Fx376_20) (Ne.symm Fx376_22) Fx376_18 hc441 fk5 fk3) hZ (hw _ (tk 86 rfl)) (hw _ (tk 3 rfl)) (by decide) (by decide)) q539a q539c (g := (mkF m 258 #[.val (.int p0), .val (.int p1), .val (.int p2), .val (.int p3), .val (.int ((p0 &&& (7 : Int32)) + (1 : Int32))), .val (.int ((p1 &&& (2147483647 : Int32)) % ((p0 &&& (7 : Int32)) + (1 : Int32)))), .val (.int ((p2 &&& (2147483647 : Int32)) % ((p0 &&& (7 : Int32)) + (1 : Int32)))), .val (.int (((p3.toUInt32 >>> ((1 : Int32) &&& 31).toUInt32).toInt32) &&& (255 : Int32))), .val (.int (1 : Int32)), .val (.ref b348), .val (.ref b375), .val (.ref b375), .val (.int (1 : Int32)), .val (.ref b375), .unset] [(.int ((p2 &&& (2147483647 : Int32)) % ((p0 &&& (7 : Int32)) + (1 : Int32)))), (.ref b348)])) rfl (by rw [hml]; rfl) (Steps.refl _) (argsL := [(.int ((p2 &&& (2147483647 : Int32)) % ((p0 &&& (7 : Int32)) + (1 : Int32))))]) (rest := []) (lenOf pd_3 rfl) rfl (by show 2 * 0 + _ ≤ _; exact Nat.le_of_eq rfl) (hb hby at_258) (fun _ _ => ⟨rfl, e528, (by decide : 12 + 5 ≤ _), (by decide : 48 + 10 ≤ _)⟩)
      dsimp only [Pt.U, Pt.locs, Pt.cells, Pt.slots] at X539 l539 y539 z539 st539 hQ539
      subst l539 y539 z539
      obtain ⟨b304_539, b125_305_539, b101_111_126_305_539, k101_111_126_305_539, b94_305_539, b101_111_117_305_539, k101_111_117_305_539, rv539, N539q, O539, K539c, Fe539_0, Fx539_0, Fx539_1, Fx539_2, Fx539_3, Fx539_4, Fx539_5, Fx539_6, Fx539_7, Fx539_8, Fx539_9, Fx539_10, Fx539_11, Fx539_12, Fx539_13, Fx539_14, Fx539_15, Fx539_16, Fx539_17, Fx539_18, Fx539_19, Fx539_20, Fx539_21, Fx539_22, Fx539_23, Fx539_24, Fx539_25, Fx539_26, Fx539_27, Fx539_28, Fx539_29, Fx539_30, Fx539_31, Fx539_32⟩ := hQ539
      subst rv539
      have N539 := Fr.app N528 N539q
      have g_b304_539 := Fx539_0
      have ne_b348_b304_539 : b348 ≠ b304_539 := Nat.ne_of_lt (Nat.lt_of_lt_of_le c534.lt Fx539_1)
      have ne_b40_373_b304_539 : b40_373 ≠ b304_539 := Nat.ne_of_lt (Nat.lt_of_lt_of_le c540.lt Fx539_1)
      have ne_b68_373_b304_539 : b68_373 ≠ b304_539 := Nat.ne_of_lt (Nat.lt_of_lt_of_le c536.lt Fx539_1)
      have ne_b47_373_b304_539 : b47_373 ≠ b304_539 := Nat.ne_of_lt (Nat.lt_of_lt_of_le c541.lt Fx539_1)
      have ne_b17_48_373_b304_539 : b17_48_373 ≠ b304_539 := Nat.ne_of_lt (Nat.lt_of_lt_of_le c542.lt Fx539_1)
      have ne_b58_373_b304_539 : b58_373 ≠ b304_539 := Nat.ne_of_lt (Nat.lt_of_lt_of_le c543.lt Fx539_1)
      have ne_b375_b304_539 : b375 ≠ b304_539 := Nat.ne_of_lt (Nat.lt_of_lt_of_le c517.lt Fx539_1)
      have ne_b94_376_b304_539 : b94_376 ≠ b304_539 := Nat.ne_of_lt (Nat.lt_of_lt_of_le c524.lt Fx539_1)
      have ne_b101_111_117_376_b304_539 : b101_111_117_376 ≠ b304_539 := Nat.ne_of_lt (Nat.lt_of_lt_of_le c527.lt Fx539_1)
      have ne_b125_376_b304_539 : b125_376 ≠ b304_539 := Nat.ne_of_lt (Nat.lt_of_lt_of_le c520.lt Fx539_1)
      have ne_b101_111_126_376_b304_539 : b101_111_126_376 ≠ b304_539 := Nat.ne_of_lt (Nat.lt_of_lt_of_le c523.lt Fx539_1)
      have ne_b505_b304_539 : b505 ≠ b304_539 := Nat.ne_of_lt (Nat.lt_of_lt_of_le V_b505_507.lt Fx539_1)
      have g_b125_305_539 := Fx539_5
      have ne_b348_b125_305_539 : b348 ≠ b125_305_539 := Nat.ne_of_lt (Nat.lt_of_lt_of_le c534.lt Fx539_6)
      have ne_b40_373_b125_305_539 : b40_373 ≠ b125_305_539 := Nat.ne_of_lt (Nat.lt_of_lt_of_le c540.lt Fx539_6)
      have ne_b68_373_b125_305_539 : b68_373 ≠ b125_305_539 := Nat.ne_of_lt (Nat.lt_of_lt_of_le c536.lt Fx539_6)
      have ne_b47_373_b125_305_539 : b47_373 ≠ b125_305_539 := Nat.ne_of_lt (Nat.lt_of_lt_of_le c541.lt Fx539_6)
      have ne_b17_48_373_b125_305_539 : b17_48_373 ≠ b125_305_539 := Nat.ne_of_lt (Nat.lt_of_lt_of_le c542.lt Fx539_6)
      have ne_b58_373_b125_305_539 : b58_373 ≠ b125_305_539 := Nat.ne_of_lt (Nat.lt_of_lt_of_le c543.lt Fx539_6)
      have ne_b375_b125_305_539 : b375 ≠ b125_305_539 := Nat.ne_of_lt (Nat.lt_of_lt_of_le c517.lt Fx539_6)
      have ne_b94_376_b125_305_539 : b94_376 ≠ b125_305_539 := Nat.ne_of_lt (Nat.lt_of_lt_of_le c524.lt Fx539_6)
      have ne_b101_111_117_376_b125_305_539 : b101_111_117_376 ≠ b125_305_539 := Nat.ne_of_lt (Nat.lt_of_lt_of_le c527.lt Fx539_6)
      have ne_b125_376_b125_305_539 : b125_376 ≠ b125_305_539 := Nat.ne_of_lt (Nat.lt_of_lt_of_le c520.lt Fx539_6)
      have ne_b101_111_126_376_b125_305_539 : b101_111_126_376 ≠ b125_305_539 := Nat.ne_of_lt (Nat.lt_of_lt_of_le c523.lt Fx539_6)
      have ne_b505_b125_305_539 : b505 ≠ b125_305_539 := Nat.ne_of_lt (Nat.lt_of_lt_of_le V_b505_507.lt Fx539_6)
      have g_b101_111_126_305_539 := Fx539_11
      have ne_b348_b101_111_126_305_539 : b348 ≠ b101_111_126_305_539 := Nat.ne_of_lt (Nat.lt_of_lt_of_le c534.lt Fx539_12)
      have ne_b40_373_b101_111_126_305_539 : b40_373 ≠ b101_111_126_305_539 := Nat.ne_of_lt (Nat.lt_of_lt_of_le c540.lt Fx539_12)
      have ne_b68_373_b101_111_126_305_539 : b68_373 ≠ b101_111_126_305_539 := Nat.ne_of_lt (Nat.lt_of_lt_of_le c536.lt Fx539_12)
      have ne_b47_373_b101_111_126_305_539 : b47_373 ≠ b101_111_126_305_539 := Nat.ne_of_lt (Nat.lt_of_lt_of_le c541.lt Fx539_12)
      have ne_b17_48_373_b101_111_126_305_539 : b17_48_373 ≠ b101_111_126_305_539 := Nat.ne_of_lt (Nat.lt_of_lt_of_le c542.lt Fx539_12)
      have ne_b58_373_b101_111_126_305_539 : b58_373 ≠ b101_111_126_305_539 := Nat.ne_of_lt (Nat.lt_of_lt_of_le c543.lt Fx539_12)
      have ne_b375_b101_111_126_305_539 : b375 ≠ b101_111_126_305_539 := Nat.ne_of_lt (Nat.lt_of_lt_of_le c517.lt Fx539_12)
      have ne_b94_376_b101_111_126_305_539 : b94_376 ≠ b101_111_126_305_539 := Nat.ne_of_lt (Nat.lt_of_lt_of_le c524.lt Fx539_12)
      have ne_b101_111_117_376_b101_111_126_305_539 : b101_111_117_376 ≠ b101_111_126_305_539 := Nat.ne_of_lt (Nat.lt_of_lt_of_le c527.lt Fx539_12)
      have ne_b125_376_b101_111_126_305_539 : b125_376 ≠ b101_111_126_305_539 := Nat.ne_of_lt (Nat.lt_of_lt_of_le c520.lt Fx539_12)
      have ne_b101_111_126_376_b101_111_126_305_539 : b101_111_126_376 ≠ b101_111_126_305_539 := Nat.ne_of_lt (Nat.lt_of_lt_of_le c523.lt Fx539_12)
      have ne_b505_b101_111_126_305_539 : b505 ≠ b101_111_126_305_539 := Nat.ne_of_lt (Nat.lt_of_lt_of_le V_b505_507.lt Fx539_12)
      have g_b94_305_539 := Fx539_14
      have ne_b348_b94_305_539 : b348 ≠ b94_305_539 := Nat.ne_of_lt (Nat.lt_of_lt_of_le c534.lt Fx539_15)
      have ne_b40_373_b94_305_539 : b40_373 ≠ b94_305_539 := Nat.ne_of_lt (Nat.lt_of_lt_of_le c540.lt Fx539_15)
      have ne_b68_373_b94_305_539 : b68_373 ≠ b94_305_539 := Nat.ne_of_lt (Nat.lt_of_lt_of_le c536.lt Fx539_15)
      have ne_b47_373_b94_305_539 : b47_373 ≠ b94_305_539 := Nat.ne_of_lt (Nat.lt_of_lt_of_le c541.lt Fx539_15)
      have ne_b17_48_373_b94_305_539 : b17_48_373 ≠ b94_305_539 := Nat.ne_of_lt (Nat.lt_of_lt_of_le c542.lt Fx539_15)
      have ne_b58_373_b94_305_539 : b58_373 ≠ b94_305_539 := Nat.ne_of_lt (Nat.lt_of_lt_of_le c543.lt Fx539_15)
      have ne_b375_b94_305_539 : b375 ≠ b94_305_539 := Nat.ne_of_lt (Nat.lt_of_lt_of_le c517.lt Fx539_15)
      have ne_b94_376_b94_305_539 : b94_376 ≠ b94_305_539 := Nat.ne_of_lt (Nat.lt_of_lt_of_le c524.lt Fx539_15)
      have ne_b101_111_117_376_b94_305_539 : b101_111_117_376 ≠ b94_305_539 := Nat.ne_of_lt (Nat.lt_of_lt_of_le c527.lt Fx539_15)
      have ne_b125_376_b94_305_539 : b125_376 ≠ b94_305_539 := Nat.ne_of_lt (Nat.lt_of_lt_of_le c520.lt Fx539_15)
      have ne_b101_111_126_376_b94_305_539 : b101_111_126_376 ≠ b94_305_539 := Nat.ne_of_lt (Nat.lt_of_lt_of_le c523.lt Fx539_15)
      have ne_b505_b94_305_539 : b505 ≠ b94_305_539 := Nat.ne_of_lt (Nat.lt_of_lt_of_le V_b505_507.lt Fx539_15)
      have g_b101_111_117_305_539 := Fx539_20
      have ne_b348_b101_111_117_305_539 : b348 ≠ b101_111_117_305_539 := Nat.ne_of_lt (Nat.lt_of_lt_of_le c534.lt Fx539_21)
      have ne_b40_373_b101_111_117_305_539 : b40_373 ≠ b101_111_117_305_539 := Nat.ne_of_lt (Nat.lt_of_lt_of_le c540.lt Fx539_21)
      have ne_b68_373_b101_111_117_305_539 : b68_373 ≠ b101_111_117_305_539 := Nat.ne_of_lt (Nat.lt_of_lt_of_le c536.lt Fx539_21)
      have ne_b47_373_b101_111_117_305_539 : b47_373 ≠ b101_111_117_305_539 := Nat.ne_of_lt (Nat.lt_of_lt_of_le c541.lt Fx539_21)
      have ne_b17_48_373_b101_111_117_305_539 : b17_48_373 ≠ b101_111_117_305_539 := Nat.ne_of_lt (Nat.lt_of_lt_of_le c542.lt Fx539_21)
      have ne_b58_373_b101_111_117_305_539 : b58_373 ≠ b101_111_117_305_539 := Nat.ne_of_lt (Nat.lt_of_lt_of_le c543.lt Fx539_21)
      have ne_b375_b101_111_117_305_539 : b375 ≠ b101_111_117_305_539 := Nat.ne_of_lt (Nat.lt_of_lt_of_le c517.lt Fx539_21)
      have ne_b94_376_b101_111_117_305_539 : b94_376 ≠ b101_111_117_305_539 := Nat.ne_of_lt (Nat.lt_of_lt_of_le c524.lt Fx539_21)
      have ne_b101_111_117_376_b101_111_117_305_539 : b101_111_117_376 ≠ b101_111_117_305_539 := Nat.ne_of_lt (Nat.lt_of_lt_of_le c527.lt Fx539_21)
      have ne_b125_376_b101_111_117_305_539 : b125_376 ≠ b101_111_117_305_539 := Nat.ne_of_lt (Nat.lt_of_lt_of_le c520.lt Fx539_21)
      have ne_b101_111_126_376_b101_111_117_305_539 : b101_111_126_376 ≠ b101_111_117_305_539 := Nat.ne_of_lt (Nat.lt_of_lt_of_le c523.lt Fx539_21)
      have ne_b505_b101_111_117_305_539 : b505 ≠ b101_111_117_305_539 := Nat.ne_of_lt (Nat.lt_of_lt_of_le V_b505_507.lt Fx539_21)
      have c544 := (c535.keep K539c (ninS ne_b348_b68_373 nin0))
      obtain ⟨T545, X545, e545, st545⟩ := getF X539 hx hZ hown (host := "") (Or.inl (hw _ (tk 80 rfl))) Via.refl rfl c544 (g := (mkF m 275 #[.val (.int p0), .val (.int p1), .val (.int p2), .val (.int p3), .val (.int ((p0 &&& (7 : Int32)) + (1 : Int32))), .val (.int ((p1 &&& (2147483647 : Int32)) % ((p0 &&& (7 : Int32)) + (1 : Int32)))), .val (.int ((p2 &&& (2147483647 : Int32)) % ((p0 &&& (7 : Int32)) + (1 : Int32)))), .val (.int (((p3.toUInt32 >>> ((1 : Int32) &&& 31).toUInt32).toInt32) &&& (255 : Int32))), .val (.int (1 : Int32)), .val (.ref b348), .val (.ref b375), .val (.ref b375), .val (.int (1 : Int32)), .val (.ref b375), .val (.ref b304_539)] [(.ref b348)])) rfl rfl (hb hby at_275)
      obtain ⟨cl546, Ar546, qa546, Sa546, Ma546, Ha546, Ga546⟩ := id Fe539_0
      have hin546 : ¬ (((p2 &&& (2147483647 : Int32)) % ((p0 &&& (7 : Int32)) + (1 : Int32))) < 0 ∨ cl546.slots.size ≤ (((p2 &&& (2147483647 : Int32)) % ((p0 &&& (7 : Int32)) + (1 : Int32)))).toNatClampNeg) := by exact inb_of Sa546 ⟨fk3, fk5⟩
      have hat546 : cl546.slots[(((p2 &&& (2147483647 : Int32)) % ((p0 &&& (7 : Int32)) + (1 : Int32)))).toNatClampNeg]? = some (.ref b304_539) := atH Ha546 hin546 (getH_hit fk3 rfl)
      obtain ⟨T547, X547, e547, st547⟩ := getF X545 hx hZ hown (host := "") (Or.inl (hw _ (tk 80 rfl))) Via.refl e545 c544 (g := (mkF m 327 #[.val (.int p0), .val (.int p1), .val (.int p2), .val (.int p3), .val (.int ((p0 &&& (7 : Int32)) + (1 : Int32))), .val (.int ((p1 &&& (2147483647 : Int32)) % ((p0 &&& (7 : Int32)) + (1 : Int32)))), .val (.int ((p2 &&& (2147483647 : Int32)) % ((p0 &&& (7 : Int32)) + (1 : Int32)))), .val (.int (((p3.toUInt32 >>> ((1 : Int32) &&& 31).toUInt32).toInt32) &&& (255 : Int32))), .val (.int (1 : Int32)), .val (.ref b348), .val (.ref b375), .val (.ref b375), .val (.int (1 : Int32)), .val (.ref b375), .val (.ref b304_539)] [(.ref b348)])) rfl rfl (hb hby at_327)
      obtain ⟨cl548, Ar548, qa548, Sa548, Ma548, Ha548, Ga548⟩ := id Fe539_0
      have hin548 : ¬ (((p1 &&& (2147483647 : Int32)) % ((p0 &&& (7 : Int32)) + (1 : Int32))) < 0 ∨ cl548.slots.size ≤ (((p1 &&& (2147483647 : Int32)) % ((p0 &&& (7 : Int32)) + (1 : Int32)))).toNatClampNeg) := by exact inb_of Sa548 ⟨fk2, fk4⟩
      have hat548 : cl548.slots[(((p1 &&& (2147483647 : Int32)) % ((p0 &&& (7 : Int32)) + (1 : Int32)))).toNatClampNeg]? = some (.ref b375) := atH Ha548 hin548 (getH_miss fk2 (Ne.symm hc441) (getH_hit fk2 rfl))
      obtain ⟨fs, hr, hrun, hended, hW, hsame⟩ := X547.leave (v := some (.int (1 : Int32))) (fun h => by rw [Bd.returns] at h; cases h)
      refine ⟨_, _, pre440 _ ?_, hrun, hended, _, _, rfl, ?_, ⟨_, rfl⟩, hW, hsame.mono (by decide) (by decide)⟩
      · show Steps p.tables e below (T437.setTop (mkF m 200 #[.val (.int p0), .val (.int p1), .val (.int p2), .val (.int p3), .val (.int ((p0 &&& (7 : Int32)) + (1 : Int32))), .val (.int ((p1 &&& (2147483647 : Int32)) % ((p0 &&& (7 : Int32)) + (1 : Int32)))), .val (.int ((p2 &&& (2147483647 : Int32)) % ((p0 &&& (7 : Int32)) + (1 : Int32)))), .val (.int (((p3.toUInt32 >>> ((1 : Int32) &&& 31).toUInt32).toInt32) &&& (255 : Int32))), .val (.int (1 : Int32)), .val (.ref b348), .val (.ref b375), .val (.ref b375), .val (.int (1 : Int32)), .val (.ref b375), .unset] [(.int ((p1 &&& (2147483647 : Int32)) % ((p0 &&& (7 : Int32)) + (1 : Int32)))), (.int ((p2 &&& (2147483647 : Int32)) % ((p0 &&& (7 : Int32)) + (1 : Int32))))])) _
        refine XS.icmpNo X437.here hx rfl (hb hby at_200) rfl (feq hc441).1 ?_
        show Steps p.tables e below (T437.setTop (mkF m 203 #[.val (.int p0), .val (.int p1), .val (.int p2), .val (.int p3), .val (.int ((p0 &&& (7 : Int32)) + (1 : Int32))), .val (.int ((p1 &&& (2147483647 : Int32)) % ((p0 &&& (7 : Int32)) + (1 : Int32)))), .val (.int ((p2 &&& (2147483647 : Int32)) % ((p0 &&& (7 : Int32)) + (1 : Int32)))), .val (.int (((p3.toUInt32 >>> ((1 : Int32) &&& 31).toUInt32).toInt32) &&& (255 : Int32))), .val (.int (1 : Int32)), .val (.ref b348), .val (.ref b375), .val (.ref b375), .val (.int (1 : Int32)), .val (.ref b375), .unset] [])) _
        refine XS.iload X437.here hx rfl (hb hby at_203) rfl ?_
        show Steps p.tables e below (T437.setTop (mkF m 205 #[.val (.int p0), .val (.int p1), .val (.int p2), .val (.int p3), .val (.int ((p0 &&& (7 : Int32)) + (1 : Int32))), .val (.int ((p1 &&& (2147483647 : Int32)) % ((p0 &&& (7 : Int32)) + (1 : Int32)))), .val (.int ((p2 &&& (2147483647 : Int32)) % ((p0 &&& (7 : Int32)) + (1 : Int32)))), .val (.int (((p3.toUInt32 >>> ((1 : Int32) &&& 31).toUInt32).toInt32) &&& (255 : Int32))), .val (.int (1 : Int32)), .val (.ref b348), .val (.ref b375), .val (.ref b375), .val (.int (1 : Int32)), .val (.ref b375), .unset] [(.int (1 : Int32))])) _
        refine XS.ifNo X437.here hx rfl (hb hby at_205) rfl ((if0 _ _).trans (feq (by decide : ¬ ((1 : Int32) = (0 : Int32)))).1) ?_
        show Steps p.tables e below (T437.setTop (mkF m 208 #[.val (.int p0), .val (.int p1), .val (.int p2), .val (.int p3), .val (.int ((p0 &&& (7 : Int32)) + (1 : Int32))), .val (.int ((p1 &&& (2147483647 : Int32)) % ((p0 &&& (7 : Int32)) + (1 : Int32)))), .val (.int ((p2 &&& (2147483647 : Int32)) % ((p0 &&& (7 : Int32)) + (1 : Int32)))), .val (.int (((p3.toUInt32 >>> ((1 : Int32) &&& 31).toUInt32).toInt32) &&& (255 : Int32))), .val (.int (1 : Int32)), .val (.ref b348), .val (.ref b375), .val (.ref b375), .val (.int (1 : Int32)), .val (.ref b375), .unset] [])) _
        refine XS.aload X437.here hx rfl (hb hby at_208) rfl rfl ?_
        show Steps p.tables e below (T437.setTop (mkF m 210 #[.val (.int p0), .val (.int p1), .val (.int p2), .val (.int p3), .val (.int ((p0 &&& (7 : Int32)) + (1 : Int32))), .val (.int ((p1 &&& (2147483647 : Int32)) % ((p0 &&& (7 : Int32)) + (1 : Int32)))), .val (.int ((p2 &&& (2147483647 : Int32)) % ((p0 &&& (7 : Int32)) + (1 : Int32)))), .val (.int (((p3.toUInt32 >>> ((1 : Int32) &&& 31).toUInt32).toInt32) &&& (255 : Int32))), .val (.int (1 : Int32)), .val (.ref b348), .val (.ref b375), .val (.ref b375), .val (.int (1 : Int32)), .val (.ref b375), .unset] [(.ref b348)])) _
        refine st493 _ ?_
        show Steps p.tables e below (T493.setTop (mkF m 213 #[.val (.int p0), .val (.int p1), .val (.int p2), .val (.int p3), .val (.int ((p0 &&& (7 : Int32)) + (1 : Int32))), .val (.int ((p1 &&& (2147483647 : Int32)) % ((p0 &&& (7 : Int32)) + (1 : Int32)))), .val (.int ((p2 &&& (2147483647 : Int32)) % ((p0 &&& (7 : Int32)) + (1 : Int32)))), .val (.int (((p3.toUInt32 >>> ((1 : Int32) &&& 31).toUInt32).toInt32) &&& (255 : Int32))), .val (.int (1 : Int32)), .val (.ref b348), .val (.ref b375), .val (.ref b375), .val (.int (1 : Int32)), .val (.ref b375), .unset] [(.ref b68_373)])) _
        refine XS.iload X493.here hx rfl (hb hby at_213) rfl ?_
        show Steps p.tables e below (T493.setTop (mkF m 215 #[.val (.int p0), .val (.int p1), .val (.int p2), .val (.int p3), .val (.int ((p0 &&& (7 : Int32)) + (1 : Int32))), .val (.int ((p1 &&& (2147483647 : Int32)) % ((p0 &&& (7 : Int32)) + (1 : Int32)))), .val (.int ((p2 &&& (2147483647 : Int32)) % ((p0 &&& (7 : Int32)) + (1 : Int32)))), .val (.int (((p3.toUInt32 >>> ((1 : Int32) &&& 31).toUInt32).toInt32) &&& (255 : Int32))), .val (.int (1 : Int32)), .val (.ref b348), .val (.ref b375), .val (.ref b375), .val (.int (1 : Int32)), .val (.ref b375), .unset] [(.int ((p2 &&& (2147483647 : Int32)) % ((p0 &&& (7 : Int32)) + (1 : Int32)))), (.ref b68_373)])) _
        refine X493.aaload hx (j := ((p2 &&& (2147483647 : Int32)) % ((p0 &&& (7 : Int32)) + (1 : Int32)))) (v := .null) (by rw [e493]; exact Ar494.1) (State.isArrayOf_alike hZ.alike Ar494.2.1) rfl Ar494.2.2 hin494 hat494 (g := (mkF m 215 #[.val (.int p0), .val (.int p1), .val (.int p2), .val (.int p3), .val (.int ((p0 &&& (7 : Int32)) + (1 : Int32))), .val (.int ((p1 &&& (2147483647 : Int32)) % ((p0 &&& (7 : Int32)) + (1 : Int32)))), .val (.int ((p2 &&& (2147483647 : Int32)) % ((p0 &&& (7 : Int32)) + (1 : Int32)))), .val (.int (((p3.toUInt32 >>> ((1 : Int32) &&& 31).toUInt32).toInt32) &&& (255 : Int32))), .val (.int (1 : Int32)), .val (.ref b348), .val (.ref b375), .val (.ref b375), .val (.int (1 : Int32)), .val (.ref b375), .unset] [(.int ((p2 &&& (2147483647 : Int32)) % ((p0 &&& (7 : Int32)) + (1 : Int32)))), (.ref b68_373)])) rfl rfl (hb hby at_215) _ ?_
        show Steps p.tables e below (T493.setTop (mkF m 216 #[.val (.int p0), .val (.int p1), .val (.int p2), .val (.int p3), .val (.int ((p0 &&& (7 : Int32)) + (1 : Int32))), .val (.int ((p1 &&& (2147483647 : Int32)) % ((p0 &&& (7 : Int32)) + (1 : Int32)))), .val (.int ((p2 &&& (2147483647 : Int32)) % ((p0 &&& (7 : Int32)) + (1 : Int32)))), .val (.int (((p3.toUInt32 >>> ((1 : Int32) &&& 31).toUInt32).toInt32) &&& (255 : Int32))), .val (.int (1 : Int32)), .val (.ref b348), .val (.ref b375), .val (.ref b375), .val (.int (1 : Int32)), .val (.ref b375), .unset] [.null])) _
        refine XS.ifnonnullNo X493.here hx rfl (hb hby at_216) rfl ?_
        show Steps p.tables e below (T493.setTop (mkF m 219 #[.val (.int p0), .val (.int p1), .val (.int p2), .val (.int p3), .val (.int ((p0 &&& (7 : Int32)) + (1 : Int32))), .val (.int ((p1 &&& (2147483647 : Int32)) % ((p0 &&& (7 : Int32)) + (1 : Int32)))), .val (.int ((p2 &&& (2147483647 : Int32)) % ((p0 &&& (7 : Int32)) + (1 : Int32)))), .val (.int (((p3.toUInt32 >>> ((1 : Int32) &&& 31).toUInt32).toInt32) &&& (255 : Int32))), .val (.int (1 : Int32)), .val (.ref b348), .val (.ref b375), .val (.ref b375), .val (.int (1 : Int32)), .val (.ref b375), .unset] [])) _
        refine XS.iconst X493.here hx rfl (hb hby at_219) ?_
        show Steps p.tables e below (T493.setTop (mkF m 220 #[.val (.int p0), .val (.int p1), .val (.int p2), .val (.int p3), .val (.int ((p0 &&& (7 : Int32)) + (1 : Int32))), .val (.int ((p1 &&& (2147483647 : Int32)) % ((p0 &&& (7 : Int32)) + (1 : Int32)))), .val (.int ((p2 &&& (2147483647 : Int32)) % ((p0 &&& (7 : Int32)) + (1 : Int32)))), .val (.int (((p3.toUInt32 >>> ((1 : Int32) &&& 31).toUInt32).toInt32) &&& (255 : Int32))), .val (.int (1 : Int32)), .val (.ref b348), .val (.ref b375), .val (.ref b375), .val (.int (1 : Int32)), .val (.ref b375), .unset] [(.int (1 : Int32))])) _
        refine XS.goto X493.here hx rfl (pc0 := 220) (pc' := 224) rfl (hb hby at_220) (by decide) (by decide) ?_
        show Steps p.tables e below (T493.setTop (mkF m 224 #[.val (.int p0), .val (.int p1), .val (.int p2), .val (.int p3), .val (.int ((p0 &&& (7 : Int32)) + (1 : Int32))), .val (.int ((p1 &&& (2147483647 : Int32)) % ((p0 &&& (7 : Int32)) + (1 : Int32)))), .val (.int ((p2 &&& (2147483647 : Int32)) % ((p0 &&& (7 : Int32)) + (1 : Int32)))), .val (.int (((p3.toUInt32 >>> ((1 : Int32) &&& 31).toUInt32).toInt32) &&& (255 : Int32))), .val (.int (1 : Int32)), .val (.ref b348), .val (.ref b375), .val (.ref b375), .val (.int (1 : Int32)), .val (.ref b375), .unset] [(.int (1 : Int32))])) _
        refine XS.istore X493.here hx rfl (hb hby at_224) rfl (l' := #[.val (.int p0), .val (.int p1), .val (.int p2), .val (.int p3), .val (.int ((p0 &&& (7 : Int32)) + (1 : Int32))), .val (.int ((p1 &&& (2147483647 : Int32)) % ((p0 &&& (7 : Int32)) + (1 : Int32)))), .val (.int ((p2 &&& (2147483647 : Int32)) % ((p0 &&& (7 : Int32)) + (1 : Int32)))), .val (.int (((p3.toUInt32 >>> ((1 : Int32) &&& 31).toUInt32).toInt32) &&& (255 : Int32))), .val (.int (1 : Int32)), .val (.ref b348), .val (.ref b375), .val (.ref b375), .val (.int (1 : Int32)), .val (.ref b375), .unset]) rfl ?_
        show Steps p.tables e below (T493.setTop (mkF m 226 #[.val (.int p0), .val (.int p1), .val (.int p2), .val (.int p3), .val (.int ((p0 &&& (7 : Int32)) + (1 : Int32))), .val (.int ((p1 &&& (2147483647 : Int32)) % ((p0 &&& (7 : Int32)) + (1 : Int32)))), .val (.int ((p2 &&& (2147483647 : Int32)) % ((p0 &&& (7 : Int32)) + (1 : Int32)))), .val (.int (((p3.toUInt32 >>> ((1 : Int32) &&& 31).toUInt32).toInt32) &&& (255 : Int32))), .val (.int (1 : Int32)), .val (.ref b348), .val (.ref b375), .val (.ref b375), .val (.int (1 : Int32)), .val (.ref b375), .unset] [])) _
        refine XS.iload X493.here hx rfl (hb hby at_226) rfl ?_
        show Steps p.tables e below (T493.setTop (mkF m 228 #[.val (.int p0), .val (.int p1), .val (.int p2), .val (.int p3), .val (.int ((p0 &&& (7 : Int32)) + (1 : Int32))), .val (.int ((p1 &&& (2147483647 : Int32)) % ((p0 &&& (7 : Int32)) + (1 : Int32)))), .val (.int ((p2 &&& (2147483647 : Int32)) % ((p0 &&& (7 : Int32)) + (1 : Int32)))), .val (.int (((p3.toUInt32 >>> ((1 : Int32) &&& 31).toUInt32).toInt32) &&& (255 : Int32))), .val (.int (1 : Int32)), .val (.ref b348), .val (.ref b375), .val (.ref b375), .val (.int (1 : Int32)), .val (.ref b375), .unset] [(.int (1 : Int32))])) _
        refine XS.ifNo X493.here hx rfl (hb hby at_228) rfl ((if0 _ _).trans (feq (by decide : ¬ ((1 : Int32) = (0 : Int32)))).1) ?_
        show Steps p.tables e below (T493.setTop (mkF m 231 #[.val (.int p0), .val (.int p1), .val (.int p2), .val (.int p3), .val (.int ((p0 &&& (7 : Int32)) + (1 : Int32))), .val (.int ((p1 &&& (2147483647 : Int32)) % ((p0 &&& (7 : Int32)) + (1 : Int32)))), .val (.int ((p2 &&& (2147483647 : Int32)) % ((p0 &&& (7 : Int32)) + (1 : Int32)))), .val (.int (((p3.toUInt32 >>> ((1 : Int32) &&& 31).toUInt32).toInt32) &&& (255 : Int32))), .val (.int (1 : Int32)), .val (.ref b348), .val (.ref b375), .val (.ref b375), .val (.int (1 : Int32)), .val (.ref b375), .unset] [])) _
        refine XS.aload X493.here hx rfl (hb hby at_231) rfl rfl ?_
        show Steps p.tables e below (T493.setTop (mkF m 233 #[.val (.int p0), .val (.int p1), .val (.int p2), .val (.int p3), .val (.int ((p0 &&& (7 : Int32)) + (1 : Int32))), .val (.int ((p1 &&& (2147483647 : Int32)) % ((p0 &&& (7 : Int32)) + (1 : Int32)))), .val (.int ((p2 &&& (2147483647 : Int32)) % ((p0 &&& (7 : Int32)) + (1 : Int32)))), .val (.int (((p3.toUInt32 >>> ((1 : Int32) &&& 31).toUInt32).toInt32) &&& (255 : Int32))), .val (.int (1 : Int32)), .val (.ref b348), .val (.ref b375), .val (.ref b375), .val (.int (1 : Int32)), .val (.ref b375), .unset] [(.ref b375)])) _
        refine XS.iconst X493.here hx rfl (hb hby at_233) ?_
        show Steps p.tables e below (T493.setTop (mkF m 234 #[.val (.int p0), .val (.int p1), .val (.int p2), .val (.int p3), .val (.int ((p0 &&& (7 : Int32)) + (1 : Int32))), .val (.int ((p1 &&& (2147483647 : Int32)) % ((p0 &&& (7 : Int32)) + (1 : Int32)))), .val (.int ((p2 &&& (2147483647 : Int32)) % ((p0 &&& (7 : Int32)) + (1 : Int32)))), .val (.int (((p3.toUInt32 >>> ((1 : Int32) &&& 31).toUInt32).toInt32) &&& (255 : Int32))), .val (.int (1 : Int32)), .val (.ref b348), .val (.ref b375), .val (.ref b375), .val (.int (1 : Int32)), .val (.ref b375), .unset] [(.int (1 : Int32)), (.ref b375)])) _
        refine st505 _ ?_
        show Steps p.tables e below (T505.setTop (mkF m 236 #[.val (.int p0), .val (.int p1), .val (.int p2), .val (.int p3), .val (.int ((p0 &&& (7 : Int32)) + (1 : Int32))), .val (.int ((p1 &&& (2147483647 : Int32)) % ((p0 &&& (7 : Int32)) + (1 : Int32)))), .val (.int ((p2 &&& (2147483647 : Int32)) % ((p0 &&& (7 : Int32)) + (1 : Int32)))), .val (.int (((p3.toUInt32 >>> ((1 : Int32) &&& 31).toUInt32).toInt32) &&& (255 : Int32))), .val (.int (1 : Int32)), .val (.ref b348), .val (.ref b375), .val (.ref b375), .val (.int (1 : Int32)), .val (.ref b375), .unset] [(.ref b505), (.ref b375)])) _
        refine XS.dup X505.here hx rfl (hb hby at_236) rfl rfl ?_
        show Steps p.tables e below (T505.setTop (mkF m 237 #[.val (.int p0), .val (.int p1), .val (.int p2), .val (.int p3), .val (.int ((p0 &&& (7 : Int32)) + (1 : Int32))), .val (.int ((p1 &&& (2147483647 : Int32)) % ((p0 &&& (7 : Int32)) + (1 : Int32)))), .val (.int ((p2 &&& (2147483647 : Int32)) % ((p0 &&& (7 : Int32)) + (1 : Int32)))), .val (.int (((p3.toUInt32 >>> ((1 : Int32) &&& 31).toUInt32).toInt32) &&& (255 : Int32))), .val (.int (1 : Int32)), .val (.ref b348), .val (.ref b375), .val (.ref b375), .val (.int (1 : Int32)), .val (.ref b375), .unset] [(.ref b505), (.ref b505), (.ref b375)])) _
        refine XS.iconst X505.here hx rfl (hb hby at_237) ?_
        show Steps p.tables e below (T505.setTop (mkF m 238 #[.val (.int p0), .val (.int p1), .val (.int p2), .val (.int p3), .val (.int ((p0 &&& (7 : Int32)) + (1 : Int32))), .val (.int ((p1 &&& (2147483647 : Int32)) % ((p0 &&& (7 : Int32)) + (1 : Int32)))), .val (.int ((p2 &&& (2147483647 : Int32)) % ((p0 &&& (7 : Int32)) + (1 : Int32)))), .val (.int (((p3.toUInt32 >>> ((1 : Int32) &&& 31).toUInt32).toInt32) &&& (255 : Int32))), .val (.int (1 : Int32)), .val (.ref b348), .val (.ref b375), .val (.ref b375), .val (.int (1 : Int32)), .val (.ref b375), .unset] [(.int (0 : Int32)), (.ref b505), (.ref b505), (.ref b375)])) _
        refine XS.iload X505.here hx rfl (hb hby at_238) rfl ?_
        show Steps p.tables e below (T505.setTop (mkF m 240 #[.val (.int p0), .val (.int p1), .val (.int p2), .val (.int p3), .val (.int ((p0 &&& (7 : Int32)) + (1 : Int32))), .val (.int ((p1 &&& (2147483647 : Int32)) % ((p0 &&& (7 : Int32)) + (1 : Int32)))), .val (.int ((p2 &&& (2147483647 : Int32)) % ((p0 &&& (7 : Int32)) + (1 : Int32)))), .val (.int (((p3.toUInt32 >>> ((1 : Int32) &&& 31).toUInt32).toInt32) &&& (255 : Int32))), .val (.int (1 : Int32)), .val (.ref b348), .val (.ref b375), .val (.ref b375), .val (.int (1 : Int32)), .val (.ref b375), .unset] [(.int (((p3.toUInt32 >>> ((1 : Int32) &&& 31).toUInt32).toInt32) &&& (255 : Int32))), (.int (0 : Int32)), (.ref b505), (.ref b505), (.ref b375)])) _
        refine st507 _ ?_
        show Steps p.tables e below (T507.setTop (mkF m 241 #[.val (.int p0), .val (.int p1), .val (.int p2), .val (.int p3), .val (.int ((p0 &&& (7 : Int32)) + (1 : Int32))), .val (.int ((p1 &&& (2147483647 : Int32)) % ((p0 &&& (7 : Int32)) + (1 : Int32)))), .val (.int ((p2 &&& (2147483647 : Int32)) % ((p0 &&& (7 : Int32)) + (1 : Int32)))), .val (.int (((p3.toUInt32 >>> ((1 : Int32) &&& 31).toUInt32).toInt32) &&& (255 : Int32))), .val (.int (1 : Int32)), .val (.ref b348), .val (.ref b375), .val (.ref b375), .val (.int (1 : Int32)), .val (.ref b375), .unset] [(.ref b505), (.ref b375)])) _
        refine st528.trans ?_
        show Steps p.tables e below (T528.setTop (mkF m 244 #[.val (.int p0), .val (.int p1), .val (.int p2), .val (.int p3), .val (.int ((p0 &&& (7 : Int32)) + (1 : Int32))), .val (.int ((p1 &&& (2147483647 : Int32)) % ((p0 &&& (7 : Int32)) + (1 : Int32)))), .val (.int ((p2 &&& (2147483647 : Int32)) % ((p0 &&& (7 : Int32)) + (1 : Int32)))), .val (.int (((p3.toUInt32 >>> ((1 : Int32) &&& 31).toUInt32).toInt32) &&& (255 : Int32))), .val (.int (1 : Int32)), .val (.ref b348), .val (.ref b375), .val (.ref b375), .val (.int (1 : Int32)), .val (.ref b375), .unset] [.null])) _
        refine XS.ifnonnullNo X528.here hx rfl (hb hby at_244) rfl ?_
        show Steps p.tables e below (T528.setTop (mkF m 247 #[.val (.int p0), .val (.int p1), .val (.int p2), .val (.int p3), .val (.int ((p0 &&& (7 : Int32)) + (1 : Int32))), .val (.int ((p1 &&& (2147483647 : Int32)) % ((p0 &&& (7 : Int32)) + (1 : Int32)))), .val (.int ((p2 &&& (2147483647 : Int32)) % ((p0 &&& (7 : Int32)) + (1 : Int32)))), .val (.int (((p3.toUInt32 >>> ((1 : Int32) &&& 31).toUInt32).toInt32) &&& (255 : Int32))), .val (.int (1 : Int32)), .val (.ref b348), .val (.ref b375), .val (.ref b375), .val (.int (1 : Int32)), .val (.ref b375), .unset] [])) _
        refine XS.iconst X528.here hx rfl (hb hby at_247) ?_
        show Steps p.tables e below (T528.setTop (mkF m 248 #[.val (.int p0), .val (.int p1), .val (.int p2), .val (.int p3), .val (.int ((p0 &&& (7 : Int32)) + (1 : Int32))), .val (.int ((p1 &&& (2147483647 : Int32)) % ((p0 &&& (7 : Int32)) + (1 : Int32)))), .val (.int ((p2 &&& (2147483647 : Int32)) % ((p0 &&& (7 : Int32)) + (1 : Int32)))), .val (.int (((p3.toUInt32 >>> ((1 : Int32) &&& 31).toUInt32).toInt32) &&& (255 : Int32))), .val (.int (1 : Int32)), .val (.ref b348), .val (.ref b375), .val (.ref b375), .val (.int (1 : Int32)), .val (.ref b375), .unset] [(.int (1 : Int32))])) _
        refine XS.goto X528.here hx rfl (pc0 := 248) (pc' := 252) rfl (hb hby at_248) (by decide) (by decide) ?_
        show Steps p.tables e below (T528.setTop (mkF m 252 #[.val (.int p0), .val (.int p1), .val (.int p2), .val (.int p3), .val (.int ((p0 &&& (7 : Int32)) + (1 : Int32))), .val (.int ((p1 &&& (2147483647 : Int32)) % ((p0 &&& (7 : Int32)) + (1 : Int32)))), .val (.int ((p2 &&& (2147483647 : Int32)) % ((p0 &&& (7 : Int32)) + (1 : Int32)))), .val (.int (((p3.toUInt32 >>> ((1 : Int32) &&& 31).toUInt32).toInt32) &&& (255 : Int32))), .val (.int (1 : Int32)), .val (.ref b348), .val (.ref b375), .val (.ref b375), .val (.int (1 : Int32)), .val (.ref b375), .unset] [(.int (1 : Int32))])) _
        refine XS.istore X528.here hx rfl (hb hby at_252) rfl (l' := #[.val (.int p0), .val (.int p1), .val (.int p2), .val (.int p3), .val (.int ((p0 &&& (7 : Int32)) + (1 : Int32))), .val (.int ((p1 &&& (2147483647 : Int32)) % ((p0 &&& (7 : Int32)) + (1 : Int32)))), .val (.int ((p2 &&& (2147483647 : Int32)) % ((p0 &&& (7 : Int32)) + (1 : Int32)))), .val (.int (((p3.toUInt32 >>> ((1 : Int32) &&& 31).toUInt32).toInt32) &&& (255 : Int32))), .val (.int (1 : Int32)), .val (.ref b348), .val (.ref b375), .val (.ref b375), .val (.int (1 : Int32)), .val (.ref b375), .unset]) rfl ?_
        show Steps p.tables e below (T528.setTop (mkF m 254 #[.val (.int p0), .val (.int p1), .val (.int p2), .val (.int p3), .val (.int ((p0 &&& (7 : Int32)) + (1 : Int32))), .val (.int ((p1 &&& (2147483647 : Int32)) % ((p0 &&& (7 : Int32)) + (1 : Int32)))), .val (.int ((p2 &&& (2147483647 : Int32)) % ((p0 &&& (7 : Int32)) + (1 : Int32)))), .val (.int (((p3.toUInt32 >>> ((1 : Int32) &&& 31).toUInt32).toInt32) &&& (255 : Int32))), .val (.int (1 : Int32)), .val (.ref b348), .val (.ref b375), .val (.ref b375), .val (.int (1 : Int32)), .val (.ref b375), .unset] [])) _
        refine XS.aload X528.here hx rfl (hb hby at_254) rfl rfl ?_
        show Steps p.tables e below (T528.setTop (mkF m 256 #[.val (.int p0), .val (.int p1), .val (.int p2), .val (.int p3), .val (.int ((p0 &&& (7 : Int32)) + (1 : Int32))), .val (.int ((p1 &&& (2147483647 : Int32)) % ((p0 &&& (7 : Int32)) + (1 : Int32)))), .val (.int ((p2 &&& (2147483647 : Int32)) % ((p0 &&& (7 : Int32)) + (1 : Int32)))), .val (.int (((p3.toUInt32 >>> ((1 : Int32) &&& 31).toUInt32).toInt32) &&& (255 : Int32))), .val (.int (1 : Int32)), .val (.ref b348), .val (.ref b375), .val (.ref b375), .val (.int (1 : Int32)), .val (.ref b375), .unset] [(.ref b348)])) _
        refine XS.iload X528.here hx rfl (hb hby at_256) rfl ?_
        show Steps p.tables e below (T528.setTop (mkF m 258 #[.val (.int p0), .val (.int p1), .val (.int p2), .val (.int p3), .val (.int ((p0 &&& (7 : Int32)) + (1 : Int32))), .val (.int ((p1 &&& (2147483647 : Int32)) % ((p0 &&& (7 : Int32)) + (1 : Int32)))), .val (.int ((p2 &&& (2147483647 : Int32)) % ((p0 &&& (7 : Int32)) + (1 : Int32)))), .val (.int (((p3.toUInt32 >>> ((1 : Int32) &&& 31).toUInt32).toInt32) &&& (255 : Int32))), .val (.int (1 : Int32)), .val (.ref b348), .val (.ref b375), .val (.ref b375), .val (.int (1 : Int32)), .val (.ref b375), .unset] [(.int ((p2 &&& (2147483647 : Int32)) % ((p0 &&& (7 : Int32)) + (1 : Int32)))), (.ref b348)])) _
        refine st539.trans ?_
        show Steps p.tables e below (T539.setTop (mkF m 261 #[.val (.int p0), .val (.int p1), .val (.int p2), .val (.int p3), .val (.int ((p0 &&& (7 : Int32)) + (1 : Int32))), .val (.int ((p1 &&& (2147483647 : Int32)) % ((p0 &&& (7 : Int32)) + (1 : Int32)))), .val (.int ((p2 &&& (2147483647 : Int32)) % ((p0 &&& (7 : Int32)) + (1 : Int32)))), .val (.int (((p3.toUInt32 >>> ((1 : Int32) &&& 31).toUInt32).toInt32) &&& (255 : Int32))), .val (.int (1 : Int32)), .val (.ref b348), .val (.ref b375), .val (.ref b375), .val (.int (1 : Int32)), .val (.ref b375), .unset] [(.ref b304_539)])) _
        refine XS.astore X539.here hx rfl (hb hby at_261) rfl rfl (l' := #[.val (.int p0), .val (.int p1), .val (.int p2), .val (.int p3), .val (.int ((p0 &&& (7 : Int32)) + (1 : Int32))), .val (.int ((p1 &&& (2147483647 : Int32)) % ((p0 &&& (7 : Int32)) + (1 : Int32)))), .val (.int ((p2 &&& (2147483647 : Int32)) % ((p0 &&& (7 : Int32)) + (1 : Int32)))), .val (.int (((p3.toUInt32 >>> ((1 : Int32) &&& 31).toUInt32).toInt32) &&& (255 : Int32))), .val (.int (1 : Int32)), .val (.ref b348), .val (.ref b375), .val (.ref b375), .val (.int (1 : Int32)), .val (.ref b375), .val (.ref b304_539)]) rfl ?_
        show Steps p.tables e below (T539.setTop (mkF m 263 #[.val (.int p0), .val (.int p1), .val (.int p2), .val (.int p3), .val (.int ((p0 &&& (7 : Int32)) + (1 : Int32))), .val (.int ((p1 &&& (2147483647 : Int32)) % ((p0 &&& (7 : Int32)) + (1 : Int32)))), .val (.int ((p2 &&& (2147483647 : Int32)) % ((p0 &&& (7 : Int32)) + (1 : Int32)))), .val (.int (((p3.toUInt32 >>> ((1 : Int32) &&& 31).toUInt32).toInt32) &&& (255 : Int32))), .val (.int (1 : Int32)), .val (.ref b348), .val (.ref b375), .val (.ref b375), .val (.int (1 : Int32)), .val (.ref b375), .val (.ref b304_539)] [])) _
        refine XS.iload X539.here hx rfl (hb hby at_263) rfl ?_
        show Steps p.tables e below (T539.setTop (mkF m 265 #[.val (.int p0), .val (.int p1), .val (.int p2), .val (.int p3), .val (.int ((p0 &&& (7 : Int32)) + (1 : Int32))), .val (.int ((p1 &&& (2147483647 : Int32)) % ((p0 &&& (7 : Int32)) + (1 : Int32)))), .val (.int ((p2 &&& (2147483647 : Int32)) % ((p0 &&& (7 : Int32)) + (1 : Int32)))), .val (.int (((p3.toUInt32 >>> ((1 : Int32) &&& 31).toUInt32).toInt32) &&& (255 : Int32))), .val (.int (1 : Int32)), .val (.ref b348), .val (.ref b375), .val (.ref b375), .val (.int (1 : Int32)), .val (.ref b375), .val (.ref b304_539)] [(.int (1 : Int32))])) _
        refine XS.ifNo X539.here hx rfl (hb hby at_265) rfl ((if0 _ _).trans (feq (by decide : ¬ ((1 : Int32) = (0 : Int32)))).1) ?_
        show Steps p.tables e below (T539.setTop (mkF m 268 #[.val (.int p0), .val (.int p1), .val (.int p2), .val (.int p3), .val (.int ((p0 &&& (7 : Int32)) + (1 : Int32))), .val (.int ((p1 &&& (2147483647 : Int32)) % ((p0 &&& (7 : Int32)) + (1 : Int32)))), .val (.int ((p2 &&& (2147483647 : Int32)) % ((p0 &&& (7 : Int32)) + (1 : Int32)))), .val (.int (((p3.toUInt32 >>> ((1 : Int32) &&& 31).toUInt32).toInt32) &&& (255 : Int32))), .val (.int (1 : Int32)), .val (.ref b348), .val (.ref b375), .val (.ref b375), .val (.int (1 : Int32)), .val (.ref b375), .val (.ref b304_539)] [])) _
        refine XS.aload X539.here hx rfl (hb hby at_268) rfl rfl ?_
        show Steps p.tables e below (T539.setTop (mkF m 270 #[.val (.int p0), .val (.int p1), .val (.int p2), .val (.int p3), .val (.int ((p0 &&& (7 : Int32)) + (1 : Int32))), .val (.int ((p1 &&& (2147483647 : Int32)) % ((p0 &&& (7 : Int32)) + (1 : Int32)))), .val (.int ((p2 &&& (2147483647 : Int32)) % ((p0 &&& (7 : Int32)) + (1 : Int32)))), .val (.int (((p3.toUInt32 >>> ((1 : Int32) &&& 31).toUInt32).toInt32) &&& (255 : Int32))), .val (.int (1 : Int32)), .val (.ref b348), .val (.ref b375), .val (.ref b375), .val (.int (1 : Int32)), .val (.ref b375), .val (.ref b304_539)] [(.ref b304_539)])) _
        refine XS.ifnullNo X539.here hx rfl (hb hby at_270) rfl ?_
        show Steps p.tables e below (T539.setTop (mkF m 273 #[.val (.int p0), .val (.int p1), .val (.int p2), .val (.int p3), .val (.int ((p0 &&& (7 : Int32)) + (1 : Int32))), .val (.int ((p1 &&& (2147483647 : Int32)) % ((p0 &&& (7 : Int32)) + (1 : Int32)))), .val (.int ((p2 &&& (2147483647 : Int32)) % ((p0 &&& (7 : Int32)) + (1 : Int32)))), .val (.int (((p3.toUInt32 >>> ((1 : Int32) &&& 31).toUInt32).toInt32) &&& (255 : Int32))), .val (.int (1 : Int32)), .val (.ref b348), .val (.ref b375), .val (.ref b375), .val (.int (1 : Int32)), .val (.ref b375), .val (.ref b304_539)] [])) _
        refine XS.aload X539.here hx rfl (hb hby at_273) rfl rfl ?_
        show Steps p.tables e below (T539.setTop (mkF m 275 #[.val (.int p0), .val (.int p1), .val (.int p2), .val (.int p3), .val (.int ((p0 &&& (7 : Int32)) + (1 : Int32))), .val (.int ((p1 &&& (2147483647 : Int32)) % ((p0 &&& (7 : Int32)) + (1 : Int32)))), .val (.int ((p2 &&& (2147483647 : Int32)) % ((p0 &&& (7 : Int32)) + (1 : Int32)))), .val (.int (((p3.toUInt32 >>> ((1 : Int32) &&& 31).toUInt32).toInt32) &&& (255 : Int32))), .val (.int (1 : Int32)), .val (.ref b348), .val (.ref b375), .val (.ref b375), .val (.int (1 : Int32)), .val (.ref b375), .val (.ref b304_539)] [(.ref b348)])) _
        refine st545 _ ?_
        show Steps p.tables e below (T545.setTop (mkF m 278 #[.val (.int p0), .val (.int p1), .val (.int p2), .val (.int p3), .val (.int ((p0 &&& (7 : Int32)) + (1 : Int32))), .val (.int ((p1 &&& (2147483647 : Int32)) % ((p0 &&& (7 : Int32)) + (1 : Int32)))), .val (.int ((p2 &&& (2147483647 : Int32)) % ((p0 &&& (7 : Int32)) + (1 : Int32)))), .val (.int (((p3.toUInt32 >>> ((1 : Int32) &&& 31).toUInt32).toInt32) &&& (255 : Int32))), .val (.int (1 : Int32)), .val (.ref b348), .val (.ref b375), .val (.ref b375), .val (.int (1 : Int32)), .val (.ref b375), .val (.ref b304_539)] [(.ref b68_373)])) _
        refine XS.iload X545.here hx rfl (hb hby at_278) rfl ?_
        show Steps p.tables e below (T545.setTop (mkF m 280 #[.val (.int p0), .val (.int p1), .val (.int p2), .val (.int p3), .val (.int ((p0 &&& (7 : Int32)) + (1 : Int32))), .val (.int ((p1 &&& (2147483647 : Int32)) % ((p0 &&& (7 : Int32)) + (1 : Int32)))), .val (.int ((p2 &&& (2147483647 : Int32)) % ((p0 &&& (7 : Int32)) + (1 : Int32)))), .val (.int (((p3.toUInt32 >>> ((1 : Int32) &&& 31).toUInt32).toInt32) &&& (255 : Int32))), .val (.int (1 : Int32)), .val (.ref b348), .val (.ref b375), .val (.ref b375), .val (.int (1 : Int32)), .val (.ref b375), .val (.ref b304_539)] [(.int ((p2 &&& (2147483647 : Int32)) % ((p0 &&& (7 : Int32)) + (1 : Int32)))), (.ref b68_373)])) _
        refine X545.aaload hx (j := ((p2 &&& (2147483647 : Int32)) % ((p0 &&& (7 : Int32)) + (1 : Int32)))) (v := (.ref b304_539)) (by rw [e545]; exact Ar546.1) (State.isArrayOf_alike hZ.alike Ar546.2.1) rfl Ar546.2.2 hin546 hat546 (g := (mkF m 280 #[.val (.int p0), .val (.int p1), .val (.int p2), .val (.int p3), .val (.int ((p0 &&& (7 : Int32)) + (1 : Int32))), .val (.int ((p1 &&& (2147483647 : Int32)) % ((p0 &&& (7 : Int32)) + (1 : Int32)))), .val (.int ((p2 &&& (2147483647 : Int32)) % ((p0 &&& (7 : Int32)) + (1 : Int32)))), .val (.int (((p3.toUInt32 >>> ((1 : Int32) &&& 31).toUInt32).toInt32) &&& (255 : Int32))), .val (.int (1 : Int32)), .val (.ref b348), .val (.ref b375), .val (.ref b375), .val (.int (1 : Int32)), .val (.ref b375), .val (.ref b304_539)] [(.int ((p2 &&& (2147483647 : Int32)) % ((p0 &&& (7 : Int32)) + (1 : Int32)))), (.ref b68_373)])) rfl rfl (hb hby at_280) _ ?_
        show Steps p.tables e below (T545.setTop (mkF m 281 #[.val (.int p0), .val (.int p1), .val (.int p2), .val (.int p3), .val (.int ((p0 &&& (7 : Int32)) + (1 : Int32))), .val (.int ((p1 &&& (2147483647 : Int32)) % ((p0 &&& (7 : Int32)) + (1 : Int32)))), .val (.int ((p2 &&& (2147483647 : Int32)) % ((p0 &&& (7 : Int32)) + (1 : Int32)))), .val (.int (((p3.toUInt32 >>> ((1 : Int32) &&& 31).toUInt32).toInt32) &&& (255 : Int32))), .val (.int (1 : Int32)), .val (.ref b348), .val (.ref b375), .val (.ref b375), .val (.int (1 : Int32)), .val (.ref b375), .val (.ref b304_539)] [(.ref b304_539)])) _
        refine XS.aload X545.here hx rfl (hb hby at_281) rfl rfl ?_
        show Steps p.tables e below (T545.setTop (mkF m 283 #[.val (.int p0), .val (.int p1), .val (.int p2), .val (.int p3), .val (.int ((p0 &&& (7 : Int32)) + (1 : Int32))), .val (.int ((p1 &&& (2147483647 : Int32)) % ((p0 &&& (7 : Int32)) + (1 : Int32)))), .val (.int ((p2 &&& (2147483647 : Int32)) % ((p0 &&& (7 : Int32)) + (1 : Int32)))), .val (.int (((p3.toUInt32 >>> ((1 : Int32) &&& 31).toUInt32).toInt32) &&& (255 : Int32))), .val (.int (1 : Int32)), .val (.ref b348), .val (.ref b375), .val (.ref b375), .val (.int (1 : Int32)), .val (.ref b375), .val (.ref b304_539)] [(.ref b304_539), (.ref b304_539)])) _
        refine Jvm.RoadKit.acmp (g := (mkF m 283 #[.val (.int p0), .val (.int p1), .val (.int p2), .val (.int p3), .val (.int ((p0 &&& (7 : Int32)) + (1 : Int32))), .val (.int ((p1 &&& (2147483647 : Int32)) % ((p0 &&& (7 : Int32)) + (1 : Int32)))), .val (.int ((p2 &&& (2147483647 : Int32)) % ((p0 &&& (7 : Int32)) + (1 : Int32)))), .val (.int (((p3.toUInt32 >>> ((1 : Int32) &&& 31).toUInt32).toInt32) &&& (255 : Int32))), .val (.int (1 : Int32)), .val (.ref b348), .val (.ref b375), .val (.ref b375), .val (.int (1 : Int32)), .val (.ref b375), .val (.ref b304_539)] [(.ref b304_539), (.ref b304_539)])) X545 hx rfl rfl rfl (pc0 := 283) (pc' := 286) (same := true) rfl (hb hby at_283) rfl (decide_eq_true (congrArg Value.ref rfl)) (by decide) (by decide) ?_
        show Steps p.tables e below (T545.setTop (mkF m 286 #[.val (.int p0), .val (.int p1), .val (.int p2), .val (.int p3), .val (.int ((p0 &&& (7 : Int32)) + (1 : Int32))), .val (.int ((p1 &&& (2147483647 : Int32)) % ((p0 &&& (7 : Int32)) + (1 : Int32)))), .val (.int ((p2 &&& (2147483647 : Int32)) % ((p0 &&& (7 : Int32)) + (1 : Int32)))), .val (.int (((p3.toUInt32 >>> ((1 : Int32) &&& 31).toUInt32).toInt32) &&& (255 : Int32))), .val (.int (1 : Int32)), .val (.ref b348), .val (.ref b375), .val (.ref b375), .val (.int (1 : Int32)), .val (.ref b375), .val (.ref b304_539)] [])) _
        refine XS.iload X545.here hx rfl (hb hby at_286) rfl ?_
        show Steps p.tables e below (T545.setTop (mkF m 288 #[.val (.int p0), .val (.int p1), .val (.int p2), .val (.int p3), .val (.int ((p0 &&& (7 : Int32)) + (1 : Int32))), .val (.int ((p1 &&& (2147483647 : Int32)) % ((p0 &&& (7 : Int32)) + (1 : Int32)))), .val (.int ((p2 &&& (2147483647 : Int32)) % ((p0 &&& (7 : Int32)) + (1 : Int32)))), .val (.int (((p3.toUInt32 >>> ((1 : Int32) &&& 31).toUInt32).toInt32) &&& (255 : Int32))), .val (.int (1 : Int32)), .val (.ref b348), .val (.ref b375), .val (.ref b375), .val (.int (1 : Int32)), .val (.ref b375), .val (.ref b304_539)] [(.int ((p2 &&& (2147483647 : Int32)) % ((p0 &&& (7 : Int32)) + (1 : Int32))))])) _
        refine XS.iload X545.here hx rfl (hb hby at_288) rfl ?_
        show Steps p.tables e below (T545.setTop (mkF m 290 #[.val (.int p0), .val (.int p1), .val (.int p2), .val (.int p3), .val (.int ((p0 &&& (7 : Int32)) + (1 : Int32))), .val (.int ((p1 &&& (2147483647 : Int32)) % ((p0 &&& (7 : Int32)) + (1 : Int32)))), .val (.int ((p2 &&& (2147483647 : Int32)) % ((p0 &&& (7 : Int32)) + (1 : Int32)))), .val (.int (((p3.toUInt32 >>> ((1 : Int32) &&& 31).toUInt32).toInt32) &&& (255 : Int32))), .val (.int (1 : Int32)), .val (.ref b348), .val (.ref b375), .val (.ref b375), .val (.int (1 : Int32)), .val (.ref b375), .val (.ref b304_539)] [(.int ((p1 &&& (2147483647 : Int32)) % ((p0 &&& (7 : Int32)) + (1 : Int32)))), (.int ((p2 &&& (2147483647 : Int32)) % ((p0 &&& (7 : Int32)) + (1 : Int32))))])) _
        refine XS.icmpYes X545.here hx rfl (pc0 := 290) (pc' := 297) rfl (hb hby at_290) rfl (feq hc441).2 (by decide) (by decide) ?_
        show Steps p.tables e below (T545.setTop (mkF m 297 #[.val (.int p0), .val (.int p1), .val (.int p2), .val (.int p3), .val (.int ((p0 &&& (7 : Int32)) + (1 : Int32))), .val (.int ((p1 &&& (2147483647 : Int32)) % ((p0 &&& (7 : Int32)) + (1 : Int32)))), .val (.int ((p2 &&& (2147483647 : Int32)) % ((p0 &&& (7 : Int32)) + (1 : Int32)))), .val (.int (((p3.toUInt32 >>> ((1 : Int32) &&& 31).toUInt32).toInt32) &&& (255 : Int32))), .val (.int (1 : Int32)), .val (.ref b348), .val (.ref b375), .val (.ref b375), .val (.int (1 : Int32)), .val (.ref b375), .val (.ref b304_539)] [])) _
        refine XS.iconst X545.here hx rfl (hb hby at_297) ?_
        show Steps p.tables e below (T545.setTop (mkF m 298 #[.val (.int p0), .val (.int p1), .val (.int p2), .val (.int p3), .val (.int ((p0 &&& (7 : Int32)) + (1 : Int32))), .val (.int ((p1 &&& (2147483647 : Int32)) % ((p0 &&& (7 : Int32)) + (1 : Int32)))), .val (.int ((p2 &&& (2147483647 : Int32)) % ((p0 &&& (7 : Int32)) + (1 : Int32)))), .val (.int (((p3.toUInt32 >>> ((1 : Int32) &&& 31).toUInt32).toInt32) &&& (255 : Int32))), .val (.int (1 : Int32)), .val (.ref b348), .val (.ref b375), .val (.ref b375), .val (.int (1 : Int32)), .val (.ref b375), .val (.ref b304_539)] [(.int (0 : Int32))])) _
        refine XS.aload X545.here hx rfl (hb hby at_298) rfl rfl ?_
        show Steps p.tables e below (T545.setTop (mkF m 300 #[.val (.int p0), .val (.int p1), .val (.int p2), .val (.int p3), .val (.int ((p0 &&& (7 : Int32)) + (1 : Int32))), .val (.int ((p1 &&& (2147483647 : Int32)) % ((p0 &&& (7 : Int32)) + (1 : Int32)))), .val (.int ((p2 &&& (2147483647 : Int32)) % ((p0 &&& (7 : Int32)) + (1 : Int32)))), .val (.int (((p3.toUInt32 >>> ((1 : Int32) &&& 31).toUInt32).toInt32) &&& (255 : Int32))), .val (.int (1 : Int32)), .val (.ref b348), .val (.ref b375), .val (.ref b375), .val (.int (1 : Int32)), .val (.ref b375), .val (.ref b304_539)] [(.ref b304_539), (.int (0 : Int32))])) _
        refine XS.aload X545.here hx rfl (hb hby at_300) rfl rfl ?_
        show Steps p.tables e below (T545.setTop (mkF m 302 #[.val (.int p0), .val (.int p1), .val (.int p2), .val (.int p3), .val (.int ((p0 &&& (7 : Int32)) + (1 : Int32))), .val (.int ((p1 &&& (2147483647 : Int32)) % ((p0 &&& (7 : Int32)) + (1 : Int32)))), .val (.int ((p2 &&& (2147483647 : Int32)) % ((p0 &&& (7 : Int32)) + (1 : Int32)))), .val (.int (((p3.toUInt32 >>> ((1 : Int32) &&& 31).toUInt32).toInt32) &&& (255 : Int32))), .val (.int (1 : Int32)), .val (.ref b348), .val (.ref b375), .val (.ref b375), .val (.int (1 : Int32)), .val (.ref b375), .val (.ref b304_539)] [(.ref b375), (.ref b304_539), (.int (0 : Int32))])) _
        refine Jvm.RoadKit.acmp (g := (mkF m 302 #[.val (.int p0), .val (.int p1), .val (.int p2), .val (.int p3), .val (.int ((p0 &&& (7 : Int32)) + (1 : Int32))), .val (.int ((p1 &&& (2147483647 : Int32)) % ((p0 &&& (7 : Int32)) + (1 : Int32)))), .val (.int ((p2 &&& (2147483647 : Int32)) % ((p0 &&& (7 : Int32)) + (1 : Int32)))), .val (.int (((p3.toUInt32 >>> ((1 : Int32) &&& 31).toUInt32).toInt32) &&& (255 : Int32))), .val (.int (1 : Int32)), .val (.ref b348), .val (.ref b375), .val (.ref b375), .val (.int (1 : Int32)), .val (.ref b375), .val (.ref b304_539)] [(.ref b375), (.ref b304_539), (.int (0 : Int32))])) X545 hx rfl rfl rfl (pc0 := 302) (pc' := 309) (same := false) rfl (hb hby at_302) rfl (decide_eq_false fun q => (Ne.symm ne_b375_b304_539) (Value.ref.inj q)) (by decide) (by decide) ?_
        show Steps p.tables e below (T545.setTop (mkF m 309 #[.val (.int p0), .val (.int p1), .val (.int p2), .val (.int p3), .val (.int ((p0 &&& (7 : Int32)) + (1 : Int32))), .val (.int ((p1 &&& (2147483647 : Int32)) % ((p0 &&& (7 : Int32)) + (1 : Int32)))), .val (.int ((p2 &&& (2147483647 : Int32)) % ((p0 &&& (7 : Int32)) + (1 : Int32)))), .val (.int (((p3.toUInt32 >>> ((1 : Int32) &&& 31).toUInt32).toInt32) &&& (255 : Int32))), .val (.int (1 : Int32)), .val (.ref b348), .val (.ref b375), .val (.ref b375), .val (.int (1 : Int32)), .val (.ref b375), .val (.ref b304_539)] [(.int (0 : Int32))])) _
        refine XS.iconst X545.here hx rfl (hb hby at_309) ?_
        show Steps p.tables e below (T545.setTop (mkF m 310 #[.val (.int p0), .val (.int p1), .val (.int p2), .val (.int p3), .val (.int ((p0 &&& (7 : Int32)) + (1 : Int32))), .val (.int ((p1 &&& (2147483647 : Int32)) % ((p0 &&& (7 : Int32)) + (1 : Int32)))), .val (.int ((p2 &&& (2147483647 : Int32)) % ((p0 &&& (7 : Int32)) + (1 : Int32)))), .val (.int (((p3.toUInt32 >>> ((1 : Int32) &&& 31).toUInt32).toInt32) &&& (255 : Int32))), .val (.int (1 : Int32)), .val (.ref b348), .val (.ref b375), .val (.ref b375), .val (.int (1 : Int32)), .val (.ref b375), .val (.ref b304_539)] [(.int (0 : Int32)), (.int (0 : Int32))])) _
        refine XS.icmpNo X545.here hx rfl (hb hby at_310) rfl (teq (by decide : ((0 : Int32) = (0 : Int32)))).2 ?_
        show Steps p.tables e below (T545.setTop (mkF m 313 #[.val (.int p0), .val (.int p1), .val (.int p2), .val (.int p3), .val (.int ((p0 &&& (7 : Int32)) + (1 : Int32))), .val (.int ((p1 &&& (2147483647 : Int32)) % ((p0 &&& (7 : Int32)) + (1 : Int32)))), .val (.int ((p2 &&& (2147483647 : Int32)) % ((p0 &&& (7 : Int32)) + (1 : Int32)))), .val (.int (((p3.toUInt32 >>> ((1 : Int32) &&& 31).toUInt32).toInt32) &&& (255 : Int32))), .val (.int (1 : Int32)), .val (.ref b348), .val (.ref b375), .val (.ref b375), .val (.int (1 : Int32)), .val (.ref b375), .val (.ref b304_539)] [])) _
        refine XS.iconst X545.here hx rfl (hb hby at_313) ?_
        show Steps p.tables e below (T545.setTop (mkF m 314 #[.val (.int p0), .val (.int p1), .val (.int p2), .val (.int p3), .val (.int ((p0 &&& (7 : Int32)) + (1 : Int32))), .val (.int ((p1 &&& (2147483647 : Int32)) % ((p0 &&& (7 : Int32)) + (1 : Int32)))), .val (.int ((p2 &&& (2147483647 : Int32)) % ((p0 &&& (7 : Int32)) + (1 : Int32)))), .val (.int (((p3.toUInt32 >>> ((1 : Int32) &&& 31).toUInt32).toInt32) &&& (255 : Int32))), .val (.int (1 : Int32)), .val (.ref b348), .val (.ref b375), .val (.ref b375), .val (.int (1 : Int32)), .val (.ref b375), .val (.ref b304_539)] [(.int (1 : Int32))])) _
        refine XS.goto X545.here hx rfl (pc0 := 314) (pc' := 318) rfl (hb hby at_314) (by decide) (by decide) ?_
        show Steps p.tables e below (T545.setTop (mkF m 318 #[.val (.int p0), .val (.int p1), .val (.int p2), .val (.int p3), .val (.int ((p0 &&& (7 : Int32)) + (1 : Int32))), .val (.int ((p1 &&& (2147483647 : Int32)) % ((p0 &&& (7 : Int32)) + (1 : Int32)))), .val (.int ((p2 &&& (2147483647 : Int32)) % ((p0 &&& (7 : Int32)) + (1 : Int32)))), .val (.int (((p3.toUInt32 >>> ((1 : Int32) &&& 31).toUInt32).toInt32) &&& (255 : Int32))), .val (.int (1 : Int32)), .val (.ref b348), .val (.ref b375), .val (.ref b375), .val (.int (1 : Int32)), .val (.ref b375), .val (.ref b304_539)] [(.int (1 : Int32))])) _
        refine XS.istore X545.here hx rfl (hb hby at_318) rfl (l' := #[.val (.int p0), .val (.int p1), .val (.int p2), .val (.int p3), .val (.int ((p0 &&& (7 : Int32)) + (1 : Int32))), .val (.int ((p1 &&& (2147483647 : Int32)) % ((p0 &&& (7 : Int32)) + (1 : Int32)))), .val (.int ((p2 &&& (2147483647 : Int32)) % ((p0 &&& (7 : Int32)) + (1 : Int32)))), .val (.int (((p3.toUInt32 >>> ((1 : Int32) &&& 31).toUInt32).toInt32) &&& (255 : Int32))), .val (.int (1 : Int32)), .val (.ref b348), .val (.ref b375), .val (.ref b375), .val (.int (1 : Int32)), .val (.ref b375), .val (.ref b304_539)]) rfl ?_
        show Steps p.tables e below (T545.setTop (mkF m 320 #[.val (.int p0), .val (.int p1), .val (.int p2), .val (.int p3), .val (.int ((p0 &&& (7 : Int32)) + (1 : Int32))), .val (.int ((p1 &&& (2147483647 : Int32)) % ((p0 &&& (7 : Int32)) + (1 : Int32)))), .val (.int ((p2 &&& (2147483647 : Int32)) % ((p0 &&& (7 : Int32)) + (1 : Int32)))), .val (.int (((p3.toUInt32 >>> ((1 : Int32) &&& 31).toUInt32).toInt32) &&& (255 : Int32))), .val (.int (1 : Int32)), .val (.ref b348), .val (.ref b375), .val (.ref b375), .val (.int (1 : Int32)), .val (.ref b375), .val (.ref b304_539)] [])) _
        refine XS.iload X545.here hx rfl (hb hby at_320) rfl ?_
        show Steps p.tables e below (T545.setTop (mkF m 322 #[.val (.int p0), .val (.int p1), .val (.int p2), .val (.int p3), .val (.int ((p0 &&& (7 : Int32)) + (1 : Int32))), .val (.int ((p1 &&& (2147483647 : Int32)) % ((p0 &&& (7 : Int32)) + (1 : Int32)))), .val (.int ((p2 &&& (2147483647 : Int32)) % ((p0 &&& (7 : Int32)) + (1 : Int32)))), .val (.int (((p3.toUInt32 >>> ((1 : Int32) &&& 31).toUInt32).toInt32) &&& (255 : Int32))), .val (.int (1 : Int32)), .val (.ref b348), .val (.ref b375), .val (.ref b375), .val (.int (1 : Int32)), .val (.ref b375), .val (.ref b304_539)] [(.int (1 : Int32))])) _
        refine XS.ifNo X545.here hx rfl (hb hby at_322) rfl ((if0 _ _).trans (feq (by decide : ¬ ((1 : Int32) = (0 : Int32)))).1) ?_
        show Steps p.tables e below (T545.setTop (mkF m 325 #[.val (.int p0), .val (.int p1), .val (.int p2), .val (.int p3), .val (.int ((p0 &&& (7 : Int32)) + (1 : Int32))), .val (.int ((p1 &&& (2147483647 : Int32)) % ((p0 &&& (7 : Int32)) + (1 : Int32)))), .val (.int ((p2 &&& (2147483647 : Int32)) % ((p0 &&& (7 : Int32)) + (1 : Int32)))), .val (.int (((p3.toUInt32 >>> ((1 : Int32) &&& 31).toUInt32).toInt32) &&& (255 : Int32))), .val (.int (1 : Int32)), .val (.ref b348), .val (.ref b375), .val (.ref b375), .val (.int (1 : Int32)), .val (.ref b375), .val (.ref b304_539)] [])) _
        refine XS.aload X545.here hx rfl (hb hby at_325) rfl rfl ?_
        show Steps p.tables e below (T545.setTop (mkF m 327 #[.val (.int p0), .val (.int p1), .val (.int p2), .val (.int p3), .val (.int ((p0 &&& (7 : Int32)) + (1 : Int32))), .val (.int ((p1 &&& (2147483647 : Int32)) % ((p0 &&& (7 : Int32)) + (1 : Int32)))), .val (.int ((p2 &&& (2147483647 : Int32)) % ((p0 &&& (7 : Int32)) + (1 : Int32)))), .val (.int (((p3.toUInt32 >>> ((1 : Int32) &&& 31).toUInt32).toInt32) &&& (255 : Int32))), .val (.int (1 : Int32)), .val (.ref b348), .val (.ref b375), .val (.ref b375), .val (.int (1 : Int32)), .val (.ref b375), .val (.ref b304_539)] [(.ref b348)])) _
        refine st547 _ ?_
        show Steps p.tables e below (T547.setTop (mkF m 330 #[.val (.int p0), .val (.int p1), .val (.int p2), .val (.int p3), .val (.int ((p0 &&& (7 : Int32)) + (1 : Int32))), .val (.int ((p1 &&& (2147483647 : Int32)) % ((p0 &&& (7 : Int32)) + (1 : Int32)))), .val (.int ((p2 &&& (2147483647 : Int32)) % ((p0 &&& (7 : Int32)) + (1 : Int32)))), .val (.int (((p3.toUInt32 >>> ((1 : Int32) &&& 31).toUInt32).toInt32) &&& (255 : Int32))), .val (.int (1 : Int32)), .val (.ref b348), .val (.ref b375), .val (.ref b375), .val (.int (1 : Int32)), .val (.ref b375), .val (.ref b304_539)] [(.ref b68_373)])) _
        refine XS.iload X547.here hx rfl (hb hby at_330) rfl ?_
        show Steps p.tables e below (T547.setTop (mkF m 332 #[.val (.int p0), .val (.int p1), .val (.int p2), .val (.int p3), .val (.int ((p0 &&& (7 : Int32)) + (1 : Int32))), .val (.int ((p1 &&& (2147483647 : Int32)) % ((p0 &&& (7 : Int32)) + (1 : Int32)))), .val (.int ((p2 &&& (2147483647 : Int32)) % ((p0 &&& (7 : Int32)) + (1 : Int32)))), .val (.int (((p3.toUInt32 >>> ((1 : Int32) &&& 31).toUInt32).toInt32) &&& (255 : Int32))), .val (.int (1 : Int32)), .val (.ref b348), .val (.ref b375), .val (.ref b375), .val (.int (1 : Int32)), .val (.ref b375), .val (.ref b304_539)] [(.int ((p1 &&& (2147483647 : Int32)) % ((p0 &&& (7 : Int32)) + (1 : Int32)))), (.ref b68_373)])) _
        refine X547.aaload hx (j := ((p1 &&& (2147483647 : Int32)) % ((p0 &&& (7 : Int32)) + (1 : Int32)))) (v := (.ref b375)) (by rw [e547]; exact Ar548.1) (State.isArrayOf_alike hZ.alike Ar548.2.1) rfl Ar548.2.2 hin548 hat548 (g := (mkF m 332 #[.val (.int p0), .val (.int p1), .val (.int p2), .val (.int p3), .val (.int ((p0 &&& (7 : Int32)) + (1 : Int32))), .val (.int ((p1 &&& (2147483647 : Int32)) % ((p0 &&& (7 : Int32)) + (1 : Int32)))), .val (.int ((p2 &&& (2147483647 : Int32)) % ((p0 &&& (7 : Int32)) + (1 : Int32)))), .val (.int (((p3.toUInt32 >>> ((1 : Int32) &&& 31).toUInt32).toInt32) &&& (255 : Int32))), .val (.int (1 : Int32)), .val (.ref b348), .val (.ref b375), .val (.ref b375), .val (.int (1 : Int32)), .val (.ref b375), .val (.ref b304_539)] [(.int ((p1 &&& (2147483647 : Int32)) % ((p0 &&& (7 : Int32)) + (1 : Int32)))), (.ref b68_373)])) rfl rfl (hb hby at_332) _ ?_
        show Steps p.tables e below (T547.setTop (mkF m 333 #[.val (.int p0), .val (.int p1), .val (.int p2), .val (.int p3), .val (.int ((p0 &&& (7 : Int32)) + (1 : Int32))), .val (.int ((p1 &&& (2147483647 : Int32)) % ((p0 &&& (7 : Int32)) + (1 : Int32)))), .val (.int ((p2 &&& (2147483647 : Int32)) % ((p0 &&& (7 : Int32)) + (1 : Int32)))), .val (.int (((p3.toUInt32 >>> ((1 : Int32) &&& 31).toUInt32).toInt32) &&& (255 : Int32))), .val (.int (1 : Int32)), .val (.ref b348), .val (.ref b375), .val (.ref b375), .val (.int (1 : Int32)), .val (.ref b375), .val (.ref b304_539)] [(.ref b375)])) _
        refine XS.aload X547.here hx rfl (hb hby at_333) rfl rfl ?_
        show Steps p.tables e below (T547.setTop (mkF m 335 #[.val (.int p0), .val (.int p1), .val (.int p2), .val (.int p3), .val (.int ((p0 &&& (7 : Int32)) + (1 : Int32))), .val (.int ((p1 &&& (2147483647 : Int32)) % ((p0 &&& (7 : Int32)) + (1 : Int32)))), .val (.int ((p2 &&& (2147483647 : Int32)) % ((p0 &&& (7 : Int32)) + (1 : Int32)))), .val (.int (((p3.toUInt32 >>> ((1 : Int32) &&& 31).toUInt32).toInt32) &&& (255 : Int32))), .val (.int (1 : Int32)), .val (.ref b348), .val (.ref b375), .val (.ref b375), .val (.int (1 : Int32)), .val (.ref b375), .val (.ref b304_539)] [(.ref b375), (.ref b375)])) _
        refine Jvm.RoadKit.acmp (g := (mkF m 335 #[.val (.int p0), .val (.int p1), .val (.int p2), .val (.int p3), .val (.int ((p0 &&& (7 : Int32)) + (1 : Int32))), .val (.int ((p1 &&& (2147483647 : Int32)) % ((p0 &&& (7 : Int32)) + (1 : Int32)))), .val (.int ((p2 &&& (2147483647 : Int32)) % ((p0 &&& (7 : Int32)) + (1 : Int32)))), .val (.int (((p3.toUInt32 >>> ((1 : Int32) &&& 31).toUInt32).toInt32) &&& (255 : Int32))), .val (.int (1 : Int32)), .val (.ref b348), .val (.ref b375), .val (.ref b375), .val (.int (1 : Int32)), .val (.ref b375), .val (.ref b304_539)] [(.ref b375), (.ref b375)])) X547 hx rfl rfl rfl (pc0 := 335) (pc' := 338) (same := true) rfl (hb hby at_335) rfl (decide_eq_true (congrArg Value.ref rfl)) (by decide) (by decide) ?_
        show Steps p.tables e below (T547.setTop (mkF m 338 #[.val (.int p0), .val (.int p1), .val (.int p2), .val (.int p3), .val (.int ((p0 &&& (7 : Int32)) + (1 : Int32))), .val (.int ((p1 &&& (2147483647 : Int32)) % ((p0 &&& (7 : Int32)) + (1 : Int32)))), .val (.int ((p2 &&& (2147483647 : Int32)) % ((p0 &&& (7 : Int32)) + (1 : Int32)))), .val (.int (((p3.toUInt32 >>> ((1 : Int32) &&& 31).toUInt32).toInt32) &&& (255 : Int32))), .val (.int (1 : Int32)), .val (.ref b348), .val (.ref b375), .val (.ref b375), .val (.int (1 : Int32)), .val (.ref b375), .val (.ref b304_539)] [])) _
        refine XS.iconst X547.here hx rfl (hb hby at_338) ?_
        show Steps p.tables e below (T547.setTop (mkF m 339 #[.val (.int p0), .val (.int p1), .val (.int p2), .val (.int p3), .val (.int ((p0 &&& (7 : Int32)) + (1 : Int32))), .val (.int ((p1 &&& (2147483647 : Int32)) % ((p0 &&& (7 : Int32)) + (1 : Int32)))), .val (.int ((p2 &&& (2147483647 : Int32)) % ((p0 &&& (7 : Int32)) + (1 : Int32)))), .val (.int (((p3.toUInt32 >>> ((1 : Int32) &&& 31).toUInt32).toInt32) &&& (255 : Int32))), .val (.int (1 : Int32)), .val (.ref b348), .val (.ref b375), .val (.ref b375), .val (.int (1 : Int32)), .val (.ref b375), .val (.ref b304_539)] [(.int (1 : Int32))])) _
        refine XS.goto X547.here hx rfl (pc0 := 339) (pc' := 343) rfl (hb hby at_339) (by decide) (by decide) ?_
        show Steps p.tables e below (T547.setTop (mkF m 343 #[.val (.int p0), .val (.int p1), .val (.int p2), .val (.int p3), .val (.int ((p0 &&& (7 : Int32)) + (1 : Int32))), .val (.int ((p1 &&& (2147483647 : Int32)) % ((p0 &&& (7 : Int32)) + (1 : Int32)))), .val (.int ((p2 &&& (2147483647 : Int32)) % ((p0 &&& (7 : Int32)) + (1 : Int32)))), .val (.int (((p3.toUInt32 >>> ((1 : Int32) &&& 31).toUInt32).toInt32) &&& (255 : Int32))), .val (.int (1 : Int32)), .val (.ref b348), .val (.ref b375), .val (.ref b375), .val (.int (1 : Int32)), .val (.ref b375), .val (.ref b304_539)] [(.int (1 : Int32))])) _
        refine XS.istore X547.here hx rfl (hb hby at_343) rfl (l' := #[.val (.int p0), .val (.int p1), .val (.int p2), .val (.int p3), .val (.int ((p0 &&& (7 : Int32)) + (1 : Int32))), .val (.int ((p1 &&& (2147483647 : Int32)) % ((p0 &&& (7 : Int32)) + (1 : Int32)))), .val (.int ((p2 &&& (2147483647 : Int32)) % ((p0 &&& (7 : Int32)) + (1 : Int32)))), .val (.int (((p3.toUInt32 >>> ((1 : Int32) &&& 31).toUInt32).toInt32) &&& (255 : Int32))), .val (.int (1 : Int32)), .val (.ref b348), .val (.ref b375), .val (.ref b375), .val (.int (1 : Int32)), .val (.ref b375), .val (.ref b304_539)]) rfl ?_
        show Steps p.tables e below (T547.setTop (mkF m 345 #[.val (.int p0), .val (.int p1), .val (.int p2), .val (.int p3), .val (.int ((p0 &&& (7 : Int32)) + (1 : Int32))), .val (.int ((p1 &&& (2147483647 : Int32)) % ((p0 &&& (7 : Int32)) + (1 : Int32)))), .val (.int ((p2 &&& (2147483647 : Int32)) % ((p0 &&& (7 : Int32)) + (1 : Int32)))), .val (.int (((p3.toUInt32 >>> ((1 : Int32) &&& 31).toUInt32).toInt32) &&& (255 : Int32))), .val (.int (1 : Int32)), .val (.ref b348), .val (.ref b375), .val (.ref b375), .val (.int (1 : Int32)), .val (.ref b375), .val (.ref b304_539)] [])) _
        refine XS.iload X547.here hx rfl (hb hby at_345) rfl ?_
        show Steps p.tables e below (T547.setTop (mkF m 347 #[.val (.int p0), .val (.int p1), .val (.int p2), .val (.int p3), .val (.int ((p0 &&& (7 : Int32)) + (1 : Int32))), .val (.int ((p1 &&& (2147483647 : Int32)) % ((p0 &&& (7 : Int32)) + (1 : Int32)))), .val (.int ((p2 &&& (2147483647 : Int32)) % ((p0 &&& (7 : Int32)) + (1 : Int32)))), .val (.int (((p3.toUInt32 >>> ((1 : Int32) &&& 31).toUInt32).toInt32) &&& (255 : Int32))), .val (.int (1 : Int32)), .val (.ref b348), .val (.ref b375), .val (.ref b375), .val (.int (1 : Int32)), .val (.ref b375), .val (.ref b304_539)] [(.int (1 : Int32))])) _
        exact retN X547 hx (t := .boolean) Bd.returns (by simp) (hb hby at_347) hr
      · show Q0 Z p0 p1 p2 p3 h0 n0 _ T547.heap _
        rw [e547]
        exact ⟨by unfold sp0; rw [if_neg hc2, if_neg hc441], N539, trivial⟩

theorem own_plain (p0 : Int32) (p1 : Int32) (p2 : Int32) (p3 : Int32) : sp0 p0 p1 p2 p3 = (1 : Int32) := by
  unfold sp0
  simp only [ite_self]
set_option maxRecDepth 65536 in
set_option maxHeartbeats 40000000 in
theorem comes_1 {Post : Tables → Env → Array Value → State → Outcome → State → Prop} (hpost : ∀ tb e args s v u, (limb_1_1.after args s (.returned v) u = true ∧ limb_1_2.after args s (.returned v) u = true ∧ True) → FrameEnd s (.returned v) u (Jvm.fieldLocs frame_1_writes args s ++ Jvm.arrayLocs frame_1_arrays args s ++ Jvm.staticLocs frame_1_statics s) 48 192 → Post tb e args s (.returned v) u) :
    ArmFor flags0 classFile x code maxLocals ret World_1 tables_1 room_1 Calls_1 rest_1 Pre_1 Post := by
  intro l hfl _ _ p e ha hc hk s m args below hf hA hF happ hP
  obtain ⟨hcalls, hrest, hpre⟩ := hP
  obtain ⟨-, -, -, hnamed, -, -, -, hat⟩ := (Spec.applies_iff hf).mp happ
  obtain ⟨hg, hn⟩ := and_e (Cond.before_iff.mp (show (Jvm.Cond.and given_1 narrow_1).before args s = true from hpre))
  obtain ⟨g549, g550⟩ := and_e hg
  obtain ⟨g551, g552⟩ := and_e g550
  obtain ⟨g553, g554⟩ := and_e g552
  obtain ⟨g555, g556⟩ := and_e g554
  obtain ⟨w0, w1, w2, w3, rfl⟩ : ∃ w0 w1 w2 w3 : Value, args = #[w0, w1, w2, w3] := by
    have hs : args.size = 4 := by simpa [Cond.value, given_1] using g549
    obtain ⟨L⟩ := args
    match L, hs with
    | [w0, w1, w2, w3], _ => exact ⟨w0, w1, w2, w3, rfl⟩
  have hw := fun d (hd : d ∈ tables_1) => atoms_spec (ws := Jvm.Cond.code x code maxLocals ret :: tables_1) hat d (List.mem_cons_of_mem _ hd)
  have hfit : Fit s := fun {y c} hc i hi => by
    obtain ⟨ha, rfl⟩ := Array.getElem?_eq_some_iff.mp hc
    have q := List.all_eq_true.mp ((Array.all_eq_true_iff_forall_mem.mp hF) _ (Array.getElem_mem ha)) i (List.mem_range.mpr hi)
    simpa [Array.getElem?_eq_getElem hi] using q
  obtain ⟨i0, ei0⟩ := is_v g551
  obtain rfl : w0 = (.int i0) := Option.some.inj ei0
  obtain ⟨i1, ei1⟩ := is_v g553
  obtain rfl : w1 = (.int i1) := Option.some.inj ei1
  obtain ⟨i2, ei2⟩ := is_v g555
  obtain rfl : w2 = (.int i2) := Option.some.inj ei2
  obtain ⟨i3, ei3⟩ := is_v g556
  obtain rfl : w3 = (.int i3) := Option.some.inj ei3
  obtain ⟨hsets, hown0⟩ := atoms_of _ (rest_1_c_eq ▸ (show rest_1_c.before _ s = true from hrest))
  have S_1 : Sta s s.heap "java/util/BitSet" "$assertionsDisabled" "Z" (.int (1 : Int32)) := Sta.start (own_sint (Cond.before_iff.mp (hsets _ (tk 2 rfl)))) (Or.inl (hsets _ (tk 1 rfl)))
  have hS : StF s := S_1
  obtain ⟨n, o, h1, h2, h3, _, L, rfl, ⟨hv, N, -⟩, hq⟩ := rm0 l s _ hw tables_1 hS i0 i1 i2 i3 s.heap s.heap.size (Old.start s) p e ha hc hk s m _ below hf ((Spec.applies_iff_loose hf).mp happ).1 ⟨rfl, State.Warmed39.refl s, rfl⟩ trivial
  rw [own_plain i0 i1 i2 i3] at hv
  subst hv
  refine ⟨n, _, h1, h2, h3, hpost _ _ _ _ _ _ ⟨Cond.after_iff.mpr rfl, Cond.after_iff.mpr (eq_i res_at (Term.int_eval (1)) rfl), trivial⟩ ⟨hq.1, hq.2.1, (hq.2.2.sift fun y hy => Or.inr (N y hy)).mono (by decide) (by decide)⟩⟩
theorem main_1_1 : Claimed_1_1 := comes_1 fun _ _ _ _ _ _ h hF => ⟨h.1, hF⟩
theorem main_1_2 : Claimed_1_2 := comes_1 fun _ _ _ _ _ _ h hF => ⟨h.2.1, hF⟩
end Jvm.Pilot.@@N@@
namespace Jvm.Pilot.@@N@@
open Jvm Jvm.ClassFile Sem Op Lib Jvm.Free Jvm.Stand Jvm.Pilot.@@N@@.Jvm.D
/-! MADE BY PROGRAM (witnessworld.py) out of the Statement's table words and the real class files: 18 classes; the members and pool entries that the words name. The judged class is class 1, her method 1. -/
namespace start1
open Jvm.ClassFile
def u (s : String) : CpInfo := .utf8 (stringToUtf16 s)
/-- a pool by its gaps: so many unusable entries, then the entry; so many at the end -/
def gap : Nat → List CpInfo → List CpInfo
  | 0, r => r
  | n + 1, r => .unusable :: gap n r
def poolList (es : List (Nat × CpInfo)) (last : Nat) : List CpInfo := es.foldr (fun e r => gap e.1 (e.2 :: r)) (gap last [])
def pool (es : List (Nat × CpInfo)) (last : Nat) : Array CpInfo := ⟨poolList es last⟩
def fileOf (pool : Array CpInfo) (this : Nat) (attrs : Array Attribute := #[]) (ms : Array MethodInfo := #[]) (fl : Nat := 33) (sup : Nat := 0) (ifs : Array Nat := #[]) (fds : Array FieldInfo := #[]) : ClassFile where
  minorVersion := 0
  majorVersion := 65
  constantPool := pool
  accessFlags := fl
  thisClass := this
  superClass := sup
  interfaces := ifs
  fields := fds
  methods := ms
  attributes := attrs
def plain (name : String) (sup : Option ClassId) : Class where
  name := name
  kind := .ordinary
  loader := none
  accessFlags := 33
  super := sup
  interfaces := #[]
  cf := none
  fields := #[]
  methods := #[]
  instanceTypes := #[]
  staticTypes := #[]
  resolved := #[]
  callSites := []
  init := .initialized
  statics := none
  mirror := none

def pool0 : Array CpInfo := pool [(5, u "<init>"), (0, u "()V"), (1, .class_ 10), (1, u "java/lang/Object")] 113

def k0c0 : Code := { maxStack := 0, maxLocals := 1, code := object_method_1_code, exceptionTable := #[], attributes := #[] }
def k0m0 : Method := { name := "<init>", desc := "()V", sig := { parameters := [], returnType := none }, accessFlags := 1, code := some k0c0 }
/-- java/lang/Object -/
def k0 : Class := { plain "java/lang/Object" none with
  accessFlags := 33
  interfaces := #[]
  cf := some (fileOf pool0 8 #[] #[{ accessFlags := 1, nameIndex := 5, descriptorIndex := 6, attributes := #[] }] 33 0 #[] #[])
  fields := #[]
  methods := #[k0m0]
  instanceTypes := #[]
  staticTypes := #[]
  resolved := Array.replicate 124 none
  statics := none }

def pool1 : Array CpInfo := pool [(2, .class_ 4), (0, .nameAndType 5 6), (0, u "java/lang/Object"), (0, u "<init>"), (0, u "()V"), (0, .integer 2147483647), (0, .class_ 9), (0, u "com/example/vetd/vetd/Policy$ActionRules"), (0, .methodref 8 11), (0, .nameAndType 5 12), (0, u "(I)V"), (0, .class_ 14), (0, u "com/example/vetd/vetd/Policy$Lines"), (0, .methodref 13 3), (0, .fieldref 8 17), (0, .nameAndType 18 19), (0, u "lines"), (0, u "[Lcom/example/vetd/vetd/Policy$Lines;"), (0, .methodref 8 21), (0, .nameAndType 22 23), (0, u "linesOf"), (0, u "(I)Lcom/example/vetd/vetd/Policy$Lines;"), (0, .methodref 13 25), (0, .nameAndType 26 27), (0, u "answer"), (0, u "([I)Lcom/example/vetd/vetd/Decision;"), (0, .class_ 29), (0, u "com/example/vetd/vetd/ActionRulesLinesOfPinLaw"), (2, u "law"), (0, u "(IIII)Z")] 8

def k1m0 : Method := { name := "<init>", desc := "()V", sig := { parameters := [], returnType := none }, accessFlags := 1, code := none }
def k1c1 : Code := { maxStack := 5, maxLocals := 15, code := code, exceptionTable := #[], attributes := #[] }
def k1m1 : Method := { name := "law", desc := "(IIII)Z", sig := { parameters := [.int, .int, .int, .int], returnType := some .boolean }, accessFlags := 9, code := some k1c1 }
/-- com/example/vetd/vetd/ActionRulesLinesOfPinLaw -/
def k1 : Class := { plain "com/example/vetd/vetd/ActionRulesLinesOfPinLaw" (some 0) with
  accessFlags := 49
  interfaces := #[]
  cf := some (fileOf pool1 28 #[] #[{ accessFlags := 1, nameIndex := 5, descriptorIndex := 6, attributes := #[] }, { accessFlags := 9, nameIndex := 32, descriptorIndex := 33, attributes := #[] }] 49 2 #[] #[])
  fields := #[]
  methods := #[k1m0, k1m1]
  instanceTypes := #[]
  staticTypes := #[]
  resolved := Array.replicate 42 none
  statics := none }

def pool2 : Array CpInfo := pool [(1, .methodref 2 3), (0, .class_ 4), (0, .nameAndType 5 6), (0, u "java/lang/Object"), (0, u "<init>"), (0, u "()V"), (0, .class_ 8), (0, u "java/util/HashMap"), (0, .methodref 7 3), (0, .fieldref 11 12), (0, .class_ 13), (0, .nameAndType 14 15), (0, u "com/example/vetd/vetd/Policy$ActionRules"), (0, u "matchingLines"), (0, u "Ljava/util/Map;"), (0, .class_ 17), (0, u "com/example/vetd/vetd/JointLines"), (0, .methodref 16 3), (0, .fieldref 11 20), (0, .nameAndType 21 22), (0, u "jointLines"), (0, u "Lcom/example/vetd/vetd/JointLines;"), (0, .fieldref 11 24), (0, .nameAndType 25 15), (0, u "exceptions"), (0, .class_ 27), (0, u "com/example/vetd/vetd/Policy$Lines"), (0, .fieldref 11 29), (0, .nameAndType 30 31), (0, u "lines"), (0, u "[Lcom/example/vetd/vetd/Policy$Lines;"), (0, .methodref 26 3), (20, u "(I)V"), (2, u "linesOf"), (0, u "(I)Lcom/example/vetd/vetd/Policy$Lines;"), (10, .class_ 69), (0, u "com/example/vetd/vetd/Policy")] 26

def k2c0 : Code := { maxStack := 3, maxLocals := 2, code := prog_19_method_1_code, exceptionTable := #[], attributes := #[] }
def k2m0 : Method := { name := "<init>", desc := "(I)V", sig := { parameters := [.int], returnType := none }, accessFlags := 0, code := some k2c0 }
def k2c1 : Code := { maxStack := 4, maxLocals := 2, code := prog_19_method_2_code, exceptionTable := #[], attributes := #[] }
def k2m1 : Method := { name := "linesOf", desc := "(I)Lcom/example/vetd/vetd/Policy$Lines;", sig := { parameters := [.int], returnType := some (.object "com/example/vetd/vetd/Policy$Lines") }, accessFlags := 0, code := some k2c1 }
/-- com/example/vetd/vetd/Policy$ActionRules -/
def k2 : Class := { plain "com/example/vetd/vetd/Policy$ActionRules" (some 0) with
  accessFlags := 32
  interfaces := #[]
  cf := some (fileOf pool2 11 #[.nestHost 68] #[{ accessFlags := 0, nameIndex := 5, descriptorIndex := 53, attributes := #[] }, { accessFlags := 0, nameIndex := 56, descriptorIndex := 57, attributes := #[] }] 32 2 #[] #[{ accessFlags := 16, nameIndex := 30, descriptorIndex := 31, attributes := #[] }, { accessFlags := 16, nameIndex := 14, descriptorIndex := 15, attributes := #[] }, { accessFlags := 16, nameIndex := 21, descriptorIndex := 22, attributes := #[] }, { accessFlags := 16, nameIndex := 25, descriptorIndex := 15, attributes := #[] }])
  fields := #[{ name := "lines", type := (.array (.object "com/example/vetd/vetd/Policy$Lines")), accessFlags := 16, slot := 0, constantValue := 0 }, { name := "matchingLines", type := (.object "java/util/Map"), accessFlags := 16, slot := 1, constantValue := 0 }, { name := "jointLines", type := (.object "com/example/vetd/vetd/JointLines"), accessFlags := 16, slot := 2, constantValue := 0 }, { name := "exceptions", type := (.object "java/util/Map"), accessFlags := 16, slot := 3, constantValue := 0 }]
  methods := #[k2m0, k2m1]
  instanceTypes := #[(.array (.object "com/example/vetd/vetd/Policy$Lines")), (.object "java/util/Map"), (.object "com/example/vetd/vetd/JointLines"), (.object "java/util/Map")]
  staticTypes := #[]
  resolved := Array.replicate 96 none
  statics := none }

def pool3 : Array CpInfo := pool [(2, .class_ 4), (1, u "java/util/Map"), (31, .class_ 37), (0, u "java/util/Map$Entry"), (55, .class_ 94), (0, u "java/lang/Object")] 168

/-- java/util/Map -/
def k3 : Class := { plain "java/util/Map" (some 0) with
  accessFlags := 1537
  interfaces := #[]
  cf := some (fileOf pool3 2 #[.nestMembers #[36]] #[] 1537 93 #[] #[])
  fields := #[]
  methods := #[]
  instanceTypes := #[]
  staticTypes := #[]
  resolved := Array.replicate 263 none
  statics := none }

def pool4 : Array CpInfo := pool [(1, .methodref 2 3), (0, .class_ 4), (0, .nameAndType 5 6), (0, u "java/lang/Object"), (0, u "<init>"), (0, u "()V"), (1, .class_ 10), (1, u "java/util/AbstractMap"), (42, .class_ 54), (0, u "java/util/Map"), (9, u "keySet"), (0, u "Ljava/util/Set;"), (0, .class_ 67), (0, u "java/util/AbstractMap$1"), (5, u "values"), (0, u "Ljava/util/Collection;"), (0, .class_ 76), (0, u "java/util/AbstractMap$2"), (104, .class_ 182), (0, u "java/util/AbstractMap$ViewCollection"), (0, .class_ 184), (0, u "java/util/AbstractMap$SimpleImmutableEntry"), (0, .class_ 186), (0, u "java/util/AbstractMap$SimpleEntry"), (0, .class_ 188), (0, u "java/util/AbstractMap$2$1"), (0, .class_ 190), (0, u "java/util/AbstractMap$1$1")] 5

def k4c0 : Code := { maxStack := 1, maxLocals := 1, code := jdk_71_method_1_code, exceptionTable := #[], attributes := #[] }
def k4m0 : Method := { name := "<init>", desc := "()V", sig := { parameters := [], returnType := none }, accessFlags := 4, code := some k4c0 }
/-- java/util/AbstractMap -/
def k4 : Class := { plain "java/util/AbstractMap" (some 0) with
  accessFlags := 1057
  interfaces := #[3]
  cf := some (fileOf pool4 8 #[.nestMembers #[181, 183, 185, 75, 187, 66, 189]] #[{ accessFlags := 4, nameIndex := 5, descriptorIndex := 6, attributes := #[] }] 1057 2 #[53] #[{ accessFlags := 128, nameIndex := 64, descriptorIndex := 65, attributes := #[] }, { accessFlags := 128, nameIndex := 73, descriptorIndex := 74, attributes := #[] }])
  fields := #[{ name := "keySet", type := (.object "java/util/Set"), accessFlags := 128, slot := 0, constantValue := 0 }, { name := "values", type := (.object "java/util/Collection"), accessFlags := 128, slot := 1, constantValue := 0 }]
  methods := #[k4m0]
  instanceTypes := #[(.object "java/util/Set"), (.object "java/util/Collection")]
  staticTypes := #[]
  resolved := Array.replicate 196 none
  statics := none }

def pool5 : Array CpInfo := pool [(1, .class_ 2), (0, u "java/lang/Cloneable"), (0, .class_ 4), (0, u "java/lang/Object")] 2

/-- java/lang/Cloneable -/
def k5 : Class := { plain "java/lang/Cloneable" (some 0) with
  accessFlags := 1537
  interfaces := #[]
  cf := some (fileOf pool5 1 #[] #[] 1537 3 #[] #[])
  fields := #[]
  methods := #[]
  instanceTypes := #[]
  staticTypes := #[]
  resolved := Array.replicate 7 none
  statics := none }

def pool6 : Array CpInfo := pool [(1, .class_ 2), (0, u "java/io/Serializable"), (0, .class_ 4), (0, u "java/lang/Object")] 2

/-- java/io/Serializable -/
def k6 : Class := { plain "java/io/Serializable" (some 0) with
  accessFlags := 1537
  interfaces := #[]
  cf := some (fileOf pool6 1 #[] #[] 1537 3 #[] #[])
  fields := #[]
  methods := #[]
  instanceTypes := #[]
  staticTypes := #[]
  resolved := Array.replicate 7 none
  statics := none }

def pool7 : Array CpInfo := pool [(40, .class_ 41), (0, u "java/util/HashMap"), (1, .methodref 44 45), (0, .class_ 46), (0, .nameAndType 47 48), (0, u "java/util/AbstractMap"), (0, u "<init>"), (0, u "()V"), (32, .fieldref 40 82), (0, .nameAndType 83 84), (0, u "loadFactor"), (0, u "F"), (5, u "threshold"), (0, u "I"), (0, .float 1061158912), (8, .class_ 103), (1, u "java/util/Map"), (0, u "size"), (2, u "table"), (0, u "[Ljava/util/HashMap$Node;"), (14, u "entrySet"), (39, .class_ 165), (1, u "java/util/HashMap$Node"), (14, .class_ 181), (0, u "java/util/HashMap$TreeNode"), (22, u "modCount"), (37, u "Ljava/util/Set;"), (0, .class_ 244), (0, u "java/util/HashMap$KeySet"), (18, .class_ 264), (0, u "java/util/HashMap$Values"), (3, .class_ 269), (0, u "java/util/HashMap$EntrySet"), (76, .class_ 348), (1, u "java/util/HashMap$UnsafeHolder"), (43, .class_ 393), (0, u "java/lang/Cloneable"), (0, .class_ 395), (0, u "java/io/Serializable"), (0, u "serialVersionUID"), (0, u "J"), (3, u "DEFAULT_INITIAL_CAPACITY"), (1, u "MAXIMUM_CAPACITY"), (0, u "DEFAULT_LOAD_FACTOR"), (0, u "TREEIFY_THRESHOLD"), (1, u "UNTREEIFY_THRESHOLD"), (1, u "MIN_TREEIFY_CAPACITY"), (186, .class_ 597), (0, u "java/util/HashMap$EntrySpliterator"), (0, .class_ 599), (0, u "java/util/HashMap$ValueSpliterator"), (0, .class_ 601), (0, u "java/util/HashMap$KeySpliterator"), (0, .class_ 603), (0, u "java/util/HashMap$HashMapSpliterator"), (0, .class_ 605), (0, u "java/util/HashMap$EntryIterator"), (0, .class_ 607), (0, u "java/util/HashMap$ValueIterator"), (0, .class_ 609), (0, u "java/util/HashMap$KeyIterator"), (0, .class_ 611), (0, u "java/util/HashMap$HashIterator")] 17

def k7c0 : Code := { maxStack := 2, maxLocals := 1, code := jdk_69_method_7_code, exceptionTable := #[], attributes := #[] }
def k7m0 : Method := { name := "<init>", desc := "()V", sig := { parameters := [], returnType := none }, accessFlags := 1, code := some k7c0 }
/-- java/util/HashMap -/
def k7 : Class := { plain "java/util/HashMap" (some 4) with
  accessFlags := 33
  interfaces := #[3, 5, 6]
  cf := some (fileOf pool7 40 #[.nestMembers #[180, 596, 598, 600, 602, 604, 606, 608, 610, 346, 268, 263, 243, 163]] #[{ accessFlags := 1, nameIndex := 47, descriptorIndex := 48, attributes := #[] }] 33 44 #[101, 392, 394] #[{ accessFlags := 26, nameIndex := 396, descriptorIndex := 397, attributes := #[] }, { accessFlags := 24, nameIndex := 401, descriptorIndex := 91, attributes := #[] }, { accessFlags := 24, nameIndex := 403, descriptorIndex := 91, attributes := #[] }, { accessFlags := 24, nameIndex := 404, descriptorIndex := 84, attributes := #[] }, { accessFlags := 24, nameIndex := 405, descriptorIndex := 91, attributes := #[] }, { accessFlags := 24, nameIndex := 407, descriptorIndex := 91, attributes := #[] }, { accessFlags := 24, nameIndex := 409, descriptorIndex := 91, attributes := #[] }, { accessFlags := 128, nameIndex := 107, descriptorIndex := 108, attributes := #[] }, { accessFlags := 128, nameIndex := 123, descriptorIndex := 242, attributes := #[] }, { accessFlags := 128, nameIndex := 104, descriptorIndex := 91, attributes := #[] }, { accessFlags := 128, nameIndex := 204, descriptorIndex := 91, attributes := #[] }, { accessFlags := 0, nameIndex := 90, descriptorIndex := 91, attributes := #[] }, { accessFlags := 16, nameIndex := 83, descriptorIndex := 84, attributes := #[] }])
  fields := #[{ name := "serialVersionUID", type := .long, accessFlags := 26, slot := 0, constantValue := 0 }, { name := "DEFAULT_INITIAL_CAPACITY", type := .int, accessFlags := 24, slot := 1, constantValue := 0 }, { name := "MAXIMUM_CAPACITY", type := .int, accessFlags := 24, slot := 2, constantValue := 0 }, { name := "DEFAULT_LOAD_FACTOR", type := .float, accessFlags := 24, slot := 3, constantValue := 0 }, { name := "TREEIFY_THRESHOLD", type := .int, accessFlags := 24, slot := 4, constantValue := 0 }, { name := "UNTREEIFY_THRESHOLD", type := .int, accessFlags := 24, slot := 5, constantValue := 0 }, { name := "MIN_TREEIFY_CAPACITY", type := .int, accessFlags := 24, slot := 6, constantValue := 0 }, { name := "table", type := (.array (.object "java/util/HashMap$Node")), accessFlags := 128, slot := 2, constantValue := 0 }, { name := "entrySet", type := (.object "java/util/Set"), accessFlags := 128, slot := 3, constantValue := 0 }, { name := "size", type := .int, accessFlags := 128, slot := 4, constantValue := 0 }, { name := "modCount", type := .int, accessFlags := 128, slot := 5, constantValue := 0 }, { name := "threshold", type := .int, accessFlags := 0, slot := 6, constantValue := 0 }, { name := "loadFactor", type := .float, accessFlags := 16, slot := 7, constantValue := 0 }]
  methods := #[k7m0]
  instanceTypes := #[(.object "java/util/Set"), (.object "java/util/Collection"), (.array (.object "java/util/HashMap$Node")), (.object "java/util/Set"), .int, .int, .int, .float]
  staticTypes := #[.long, .int, .int, .float, .int, .int, .int]
  resolved := Array.replicate 629 none
  statics := none }

def pool8 : Array CpInfo := pool [(1, .methodref 2 3), (0, .class_ 4), (0, .nameAndType 5 6), (0, u "java/lang/Object"), (0, u "<init>"), (0, u "()V"), (0, .class_ 8), (0, u "java/util/HashMap"), (0, .methodref 7 3), (0, .fieldref 11 12), (0, .class_ 13), (0, .nameAndType 14 15), (0, u "com/example/vetd/vetd/JointLines"), (0, u "byCategory"), (0, u "Ljava/util/Map;"), (16, .class_ 33), (0, u "com/example/vetd/vetd/JointLines$RoleSet")] 132

def k8c0 : Code := { maxStack := 3, maxLocals := 1, code := prog_14_method_1_code, exceptionTable := #[], attributes := #[] }
def k8m0 : Method := { name := "<init>", desc := "()V", sig := { parameters := [], returnType := none }, accessFlags := 0, code := some k8c0 }
/-- com/example/vetd/vetd/JointLines -/
def k8 : Class := { plain "com/example/vetd/vetd/JointLines" (some 0) with
  accessFlags := 32
  interfaces := #[]
  cf := some (fileOf pool8 11 #[.nestMembers #[32]] #[{ accessFlags := 0, nameIndex := 5, descriptorIndex := 6, attributes := #[] }] 32 2 #[] #[{ accessFlags := 18, nameIndex := 14, descriptorIndex := 15, attributes := #[] }])
  fields := #[{ name := "byCategory", type := (.object "java/util/Map"), accessFlags := 18, slot := 0, constantValue := 0 }]
  methods := #[k8m0]
  instanceTypes := #[(.object "java/util/Map")]
  staticTypes := #[]
  resolved := Array.replicate 166 none
  statics := none }

def pool9 : Array CpInfo := pool [(1, .methodref 2 3), (0, .class_ 4), (0, .nameAndType 5 6), (0, u "java/lang/Object"), (0, u "<init>"), (0, u "()V"), (0, .class_ 8), (0, u "java/util/BitSet"), (0, .methodref 7 3), (0, .fieldref 11 12), (0, .class_ 13), (0, .nameAndType 14 15), (0, u "com/example/vetd/vetd/Policy$Lines"), (0, u "permitted"), (0, u "Ljava/util/BitSet;"), (0, .fieldref 11 17), (0, .nameAndType 18 15), (0, u "denied"), (0, .methodref 7 20), (0, .nameAndType 21 22), (0, u "get"), (0, u "(I)Z"), (11, u "answer"), (0, u "([I)Lcom/example/vetd/vetd/Decision;"), (6, .class_ 43), (0, u "com/example/vetd/vetd/Policy")] 2

def k9c0 : Code := { maxStack := 3, maxLocals := 1, code := prog_20_method_1_code, exceptionTable := #[], attributes := #[] }
def k9m0 : Method := { name := "<init>", desc := "()V", sig := { parameters := [], returnType := none }, accessFlags := 0, code := some k9c0 }
def k9c1 : Code := { maxStack := 2, maxLocals := 7, code := prog_20_method_2_code, exceptionTable := #[], attributes := #[] }
def k9m1 : Method := { name := "answer", desc := "([I)Lcom/example/vetd/vetd/Decision;", sig := { parameters := [(.array .int)], returnType := some (.object "com/example/vetd/vetd/Decision") }, accessFlags := 0, code := some k9c1 }
/-- com/example/vetd/vetd/Policy$Lines -/
def k9 : Class := { plain "com/example/vetd/vetd/Policy$Lines" (some 0) with
  accessFlags := 32
  interfaces := #[]
  cf := some (fileOf pool9 11 #[.nestHost 42] #[{ accessFlags := 0, nameIndex := 5, descriptorIndex := 6, attributes := #[] }, { accessFlags := 0, nameIndex := 34, descriptorIndex := 35, attributes := #[] }] 32 2 #[] #[{ accessFlags := 16, nameIndex := 14, descriptorIndex := 15, attributes := #[] }, { accessFlags := 16, nameIndex := 18, descriptorIndex := 15, attributes := #[] }])
  fields := #[{ name := "permitted", type := (.object "java/util/BitSet"), accessFlags := 16, slot := 0, constantValue := 0 }, { name := "denied", type := (.object "java/util/BitSet"), accessFlags := 16, slot := 1, constantValue := 0 }]
  methods := #[k9m0, k9m1]
  instanceTypes := #[(.object "java/util/BitSet"), (.object "java/util/BitSet")]
  staticTypes := #[]
  resolved := Array.replicate 46 none
  statics := none }

def pool10 : Array CpInfo := pool [(1, .class_ 2), (0, u "java/util/BitSet"), (0, .fieldref 1 4), (0, .nameAndType 5 6), (0, u "$assertionsDisabled"), (0, u "Z"), (0, .fieldref 1 8), (0, .nameAndType 9 10), (0, u "wordsInUse"), (0, u "I"), (0, .fieldref 1 12), (0, .nameAndType 13 14), (0, u "words"), (0, u "[J"), (3, .nameAndType 19 20), (0, u "<init>"), (0, u "()V"), (0, .methodref 22 18), (0, .class_ 23), (0, u "java/lang/Object"), (0, .fieldref 1 25), (0, .nameAndType 26 6), (0, u "sizeIsSticky"), (0, .methodref 1 28), (0, .nameAndType 29 30), (0, u "initWords"), (0, u "(I)V"), (21, .methodref 1 53), (0, .nameAndType 54 55), (0, u "wordIndex"), (0, u "(I)I"), (0, .methodref 1 57), (0, .nameAndType 58 20), (0, u "checkInvariants"), (21, u "get"), (188, .class_ 270), (0, u "java/util/BitSet$1BitSetSpliterator"), (22, u "serialPersistentFields"), (0, u "[Ljava/io/ObjectStreamField;"), (0, .class_ 296), (0, u "java/lang/Cloneable"), (0, .class_ 298), (0, u "java/io/Serializable"), (0, u "ADDRESS_BITS_PER_WORD"), (2, u "BITS_PER_WORD"), (1, u "BIT_INDEX_MASK"), (1, u "WORD_MASK"), (0, u "J"), (0, u "serialVersionUID"), (42, u "(I)Z")] 65

def k10c0 : Code := { maxStack := 2, maxLocals := 1, code := jdk_92_method_1_code, exceptionTable := #[], attributes := #[] }
def k10m0 : Method := { name := "wordIndex", desc := "(I)I", sig := { parameters := [.int], returnType := some .int }, accessFlags := 10, code := some k10c0 }
def k10c1 : Code := { maxStack := 4, maxLocals := 1, code := jdk_92_method_2_code, exceptionTable := #[], attributes := #[] }
def k10m1 : Method := { name := "checkInvariants", desc := "()V", sig := { parameters := [], returnType := none }, accessFlags := 2, code := some k10c1 }
def k10c2 : Code := { maxStack := 2, maxLocals := 1, code := jdk_92_method_4_code, exceptionTable := #[], attributes := #[] }
def k10m2 : Method := { name := "<init>", desc := "()V", sig := { parameters := [], returnType := none }, accessFlags := 1, code := some k10c2 }
def k10c3 : Code := { maxStack := 3, maxLocals := 2, code := jdk_92_method_6_code, exceptionTable := #[], attributes := #[] }
def k10m3 : Method := { name := "initWords", desc := "(I)V", sig := { parameters := [.int], returnType := none }, accessFlags := 2, code := some k10c3 }
def k10c4 : Code := { maxStack := 5, maxLocals := 3, code := jdk_92_method_26_code, exceptionTable := #[], attributes := #[] }
def k10m4 : Method := { name := "get", desc := "(I)Z", sig := { parameters := [.int], returnType := some .boolean }, accessFlags := 1, code := some k10c4 }
/-- java/util/BitSet -/
def k10 : Class := { plain "java/util/BitSet" (some 0) with
  accessFlags := 33
  interfaces := #[5, 6]
  cf := some (fileOf pool10 1 #[.nestMembers #[269]] #[{ accessFlags := 10, nameIndex := 54, descriptorIndex := 55, attributes := #[] }, { accessFlags := 2, nameIndex := 58, descriptorIndex := 20, attributes := #[] }, { accessFlags := 1, nameIndex := 19, descriptorIndex := 20, attributes := #[] }, { accessFlags := 2, nameIndex := 29, descriptorIndex := 30, attributes := #[] }, { accessFlags := 1, nameIndex := 80, descriptorIndex := 351, attributes := #[] }] 33 22 #[295, 297] #[{ accessFlags := 26, nameIndex := 299, descriptorIndex := 10, attributes := #[] }, { accessFlags := 26, nameIndex := 302, descriptorIndex := 10, attributes := #[] }, { accessFlags := 26, nameIndex := 304, descriptorIndex := 10, attributes := #[] }, { accessFlags := 26, nameIndex := 306, descriptorIndex := 307, attributes := #[] }, { accessFlags := 26, nameIndex := 293, descriptorIndex := 294, attributes := #[] }, { accessFlags := 2, nameIndex := 13, descriptorIndex := 14, attributes := #[] }, { accessFlags := 130, nameIndex := 9, descriptorIndex := 10, attributes := #[] }, { accessFlags := 130, nameIndex := 26, descriptorIndex := 6, attributes := #[] }, { accessFlags := 26, nameIndex := 308, descriptorIndex := 307, attributes := #[] }, { accessFlags := 4120, nameIndex := 5, descriptorIndex := 6, attributes := #[] }])
  fields := #[{ name := "ADDRESS_BITS_PER_WORD", type := .int, accessFlags := 26, slot := 0, constantValue := 0 }, { name := "BITS_PER_WORD", type := .int, accessFlags := 26, slot := 1, constantValue := 0 }, { name := "BIT_INDEX_MASK", type := .int, accessFlags := 26, slot := 2, constantValue := 0 }, { name := "WORD_MASK", type := .long, accessFlags := 26, slot := 3, constantValue := 0 }, { name := "serialPersistentFields", type := (.array (.object "java/io/ObjectStreamField")), accessFlags := 26, slot := 4, constantValue := 0 }, { name := "words", type := (.array .long), accessFlags := 2, slot := 0, constantValue := 0 }, { name := "wordsInUse", type := .int, accessFlags := 130, slot := 1, constantValue := 0 }, { name := "sizeIsSticky", type := .boolean, accessFlags := 130, slot := 2, constantValue := 0 }, { name := "serialVersionUID", type := .long, accessFlags := 26, slot := 5, constantValue := 0 }, { name := "$assertionsDisabled", type := .boolean, accessFlags := 4120, slot := 6, constantValue := 0 }]
  methods := #[k10m0, k10m1, k10m2, k10m3, k10m4]
  instanceTypes := #[(.array .long), .int, .boolean]
  staticTypes := #[.int, .int, .int, .long, (.array (.object "java/io/ObjectStreamField")), .long, .boolean]
  resolved := Array.replicate 417 none
  statics := some 0 }

/-- the primitive byte -/
def k11 : Class := { plain "byte" none with kind := .primitive 'B', accessFlags := 0x411 }
/-- [B -/
def k12 : Class := { plain "[B" (some 0) with kind := .array 11 .byte, interfaces := #[5, 6], accessFlags := 1041 }

/-- the primitive int -/
def k13 : Class := { plain "int" none with kind := .primitive 'I', accessFlags := 0x411 }
/-- [I -/
def k14 : Class := { plain "[I" (some 0) with kind := .array 13 .int, interfaces := #[5, 6], accessFlags := 1041 }

/-- the primitive long -/
def k15 : Class := { plain "long" none with kind := .primitive 'J', accessFlags := 0x411 }
/-- [J -/
def k16 : Class := { plain "[J" (some 0) with kind := .array 15 .long, interfaces := #[5, 6], accessFlags := 1041 }

/-- [Lcom/example/vetd/vetd/Policy$Lines; -/
def k17 : Class := { plain "[Lcom/example/vetd/vetd/Policy$Lines;" (some 0) with kind := .array 9 (.object "com/example/vetd/vetd/Policy$Lines"), interfaces := #[5, 6], accessFlags := 1041 }

def heap : Heap := #[{ cls := 10, slots := #[.int 0, .int 0, .int 0, .long 0, .null, .long 0, .int 1], vm := .statics 10 }]
def classes : Array Class := #[k0, k1, k2, k3, k4, k5, k6, k7, k8, k9, k10, k11, k12, k13, k14, k15, k16, k17]
def interned : List (Array UInt16 × Addr) := []
def slotsUsed : Nat := 7
def theMethod : MethodId := ⟨1, 1⟩
def args0 : Array Value := #[.int 5, .int 7, .int 3, .int 2]
def aboutOver (below : List Frame) : State where
  vm := { classes := classes, interned := interned.toArray }
  heap := heap
  slotsUsed := slotsUsed
  threads := #[{ frames := .invoking theMethod args0 :: below }]
def below0 : List Frame := [.native { method := ⟨0, 0⟩, args := #[] }]
def about1 : State := aboutOver below0
def p0 : Program := .bare "" "" ""
def e0 : Env := launch0.env 0 0 0
theorem w_frames : about1.frames = Frame.invoking theMethod args0 :: below0 := rfl
set_option maxRecDepth 65536 in
theorem w_args : argsFit about1.vm theMethod args0 = true := by decide +kernel
set_option maxRecDepth 65536 in
theorem w_heap : heapFits about1 = true := by decide +kernel
set_option maxRecDepth 65536 in
theorem w_runnable : about1.curStatus? = some .runnable := by decide +kernel
set_option maxRecDepth 65536 in
theorem w_alone : about1.alone = true := by decide +kernel
set_option maxRecDepth 65536 in
theorem w_named : about1.methodNamed? x = some theMethod := by decide +kernel
set_option maxRecDepth 65536 in
theorem w_hears : about1.hears theMethod below0 = true := by decide +kernel
set_option maxRecDepth 65536 in
theorem w_ripe : about1.ripe theMethod args0 below0 = true := by decide +kernel
theorem w_running : about1.status = .running := rfl
set_option maxRecDepth 65536 in
theorem w_room : about1.hasRoom e0.platform room_1 = true :=
  launch0.hasRoom_least _ room_1 (by decide +kernel) (by decide +kernel) (by decide +kernel) (by decide +kernel) (by decide +kernel) (by decide +kernel)
theorem allAtoms_all (ts : List Jvm.Cond) (a : Array Jvm.Value) (st : Jvm.State) : (allAtoms ts).before a st = ts.all (fun c => c.before a st) := by
  induction ts with
  | nil => rfl
  | cons c t ih =>
    show (Jvm.Cond.and c (allAtoms t)).before a st = _
    rw [Jvm.Cond.before_and, ih, List.all_cons]
def words1 : List Jvm.Cond := Jvm.Cond.code x code maxLocals ret :: tables_1
/-- a 'code' word, met by the world's own term for the bytes: nothing is compared byte by byte -/
theorem code_word {y : MethodName} {bytes : ByteArray} {mx : Nat} {rt : Option FieldType} {a : Array Value} {s : State} {m : MethodId} {meth : Method} {c : Code} (h1 : s.methodNamed? y = some m) (h2 : s.vm.method? m = some meth) (h3 : meth.code = some c) (h4 : c.code = bytes)
    (h5 : (c.maxLocals == mx && c.exceptionTable.isEmpty && decide (c.maxStack ≤ mostOperands) && decide (meth.sig.returnType = rt) && !meth.locks && decide (parseMethodDescriptor y.desc = some meth.sig)) = true) : (Jvm.Cond.code y bytes mx rt).before a s = true := by
  simp only [Bool.and_eq_true, beq_iff_eq, Bool.not_eq_true', decide_eq_true_eq] at h5
  obtain ⟨⟨⟨⟨⟨g1, g2⟩, g3⟩, g4⟩, g5⟩, g6⟩ := h5
  simp [Cond.before, Cond.holds, Cond.value, h1, h2, h3, h4, g1, g2, g3, g4, g5, g6]
def isCode : Jvm.Cond → Bool
  | .code _ _ _ _ => true
  | _ => false
theorem all_split {L : List Jvm.Cond} {P : Jvm.Cond → Bool} (h1 : L.all (fun c => isCode c || P c) = true) (h2 : ∀ c ∈ L.filter isCode, P c = true) : L.all P = true := by
  refine List.all_eq_true.mpr fun c hc => ?_
  have h := List.all_eq_true.mp h1 c hc
  rcases Bool.eq_false_or_eq_true (isCode c) with hi | hi
  · exact h2 c (List.mem_filter.mpr ⟨hc, hi⟩)
  · simpa [hi] using h
set_option maxRecDepth 65536 in
theorem w_c0 : (Jvm.Cond.code x code maxLocals ret).before args0 about1 = true := code_word (m := ⟨1, 1⟩) (meth := k1m1) (c := k1c1) (by decide +kernel) rfl rfl rfl (by decide +kernel)
set_option maxRecDepth 65536 in
theorem w_c1 : (Jvm.Cond.code ({ cls := "com/example/vetd/vetd/Policy$ActionRules", name := "<init>", desc := "(I)V" } : Jvm.MethodName) prog_19_method_1_code (2 : Nat) (Option.none : Option Jvm.ClassFile.FieldType)).before args0 about1 = true := code_word (m := ⟨2, 0⟩) (meth := k2m0) (c := k2c0) (by decide +kernel) rfl rfl rfl (by decide +kernel)
set_option maxRecDepth 65536 in
theorem w_c2 : (Jvm.Cond.code ({ cls := "java/lang/Object", name := "<init>", desc := "()V" } : Jvm.MethodName) object_method_1_code (1 : Nat) (Option.none : Option Jvm.ClassFile.FieldType)).before args0 about1 = true := code_word (m := ⟨0, 0⟩) (meth := k0m0) (c := k0c0) (by decide +kernel) rfl rfl rfl (by decide +kernel)
set_option maxRecDepth 65536 in
theorem w_c3 : (Jvm.Cond.code ({ cls := "java/util/HashMap", name := "<init>", desc := "()V" } : Jvm.MethodName) jdk_69_method_7_code (1 : Nat) (Option.none : Option Jvm.ClassFile.FieldType)).before args0 about1 = true := code_word (m := ⟨7, 0⟩) (meth := k7m0) (c := k7c0) (by decide +kernel) rfl rfl rfl (by decide +kernel)
set_option maxRecDepth 65536 in
theorem w_c4 : (Jvm.Cond.code ({ cls := "java/util/AbstractMap", name := "<init>", desc := "()V" } : Jvm.MethodName) jdk_71_method_1_code (1 : Nat) (Option.none : Option Jvm.ClassFile.FieldType)).before args0 about1 = true := code_word (m := ⟨4, 0⟩) (meth := k4m0) (c := k4c0) (by decide +kernel) rfl rfl rfl (by decide +kernel)
set_option maxRecDepth 65536 in
theorem w_c5 : (Jvm.Cond.code ({ cls := "com/example/vetd/vetd/JointLines", name := "<init>", desc := "()V" } : Jvm.MethodName) prog_14_method_1_code (1 : Nat) (Option.none : Option Jvm.ClassFile.FieldType)).before args0 about1 = true := code_word (m := ⟨8, 0⟩) (meth := k8m0) (c := k8c0) (by decide +kernel) rfl rfl rfl (by decide +kernel)
set_option maxRecDepth 65536 in
theorem w_c6 : (Jvm.Cond.code ({ cls := "com/example/vetd/vetd/Policy$Lines", name := "<init>", desc := "()V" } : Jvm.MethodName) prog_20_method_1_code (1 : Nat) (Option.none : Option Jvm.ClassFile.FieldType)).before args0 about1 = true := code_word (m := ⟨9, 0⟩) (meth := k9m0) (c := k9c0) (by decide +kernel) rfl rfl rfl (by decide +kernel)
set_option maxRecDepth 65536 in
theorem w_c7 : (Jvm.Cond.code ({ cls := "java/util/BitSet", name := "<init>", desc := "()V" } : Jvm.MethodName) jdk_92_method_4_code (1 : Nat) (Option.none : Option Jvm.ClassFile.FieldType)).before args0 about1 = true := code_word (m := ⟨10, 2⟩) (meth := k10m2) (c := k10c2) (by decide +kernel) rfl rfl rfl (by decide +kernel)
set_option maxRecDepth 65536 in
theorem w_c8 : (Jvm.Cond.code ({ cls := "java/util/BitSet", name := "initWords", desc := "(I)V" } : Jvm.MethodName) jdk_92_method_6_code (2 : Nat) (Option.none : Option Jvm.ClassFile.FieldType)).before args0 about1 = true := code_word (m := ⟨10, 3⟩) (meth := k10m3) (c := k10c3) (by decide +kernel) rfl rfl rfl (by decide +kernel)
set_option maxRecDepth 65536 in
theorem w_c9 : (Jvm.Cond.code ({ cls := "java/util/BitSet", name := "wordIndex", desc := "(I)I" } : Jvm.MethodName) jdk_92_method_1_code (1 : Nat) (Option.some Jvm.ClassFile.FieldType.int)).before args0 about1 = true := code_word (m := ⟨10, 0⟩) (meth := k10m0) (c := k10c0) (by decide +kernel) rfl rfl rfl (by decide +kernel)
set_option maxRecDepth 65536 in
theorem w_c10 : (Jvm.Cond.code ({ cls := "com/example/vetd/vetd/Policy$ActionRules", name := "linesOf", desc := "(I)Lcom/example/vetd/vetd/Policy$Lines;" } : Jvm.MethodName) prog_19_method_2_code (2 : Nat) (Option.some (Jvm.ClassFile.FieldType.object "com/example/vetd/vetd/Policy$Lines"))).before args0 about1 = true := code_word (m := ⟨2, 1⟩) (meth := k2m1) (c := k2c1) (by decide +kernel) rfl rfl rfl (by decide +kernel)
set_option maxRecDepth 65536 in
theorem w_c11 : (Jvm.Cond.code ({ cls := "com/example/vetd/vetd/Policy$Lines", name := "answer", desc := "([I)Lcom/example/vetd/vetd/Decision;" } : Jvm.MethodName) prog_20_method_2_code (7 : Nat) (Option.some (Jvm.ClassFile.FieldType.object "com/example/vetd/vetd/Decision"))).before args0 about1 = true := code_word (m := ⟨9, 1⟩) (meth := k9m1) (c := k9c1) (by decide +kernel) rfl rfl rfl (by decide +kernel)
set_option maxRecDepth 65536 in
theorem w_c12 : (Jvm.Cond.code ({ cls := "java/util/BitSet", name := "get", desc := "(I)Z" } : Jvm.MethodName) jdk_92_method_26_code (3 : Nat) (Option.some Jvm.ClassFile.FieldType.boolean)).before args0 about1 = true := code_word (m := ⟨10, 4⟩) (meth := k10m4) (c := k10c4) (by decide +kernel) rfl rfl rfl (by decide +kernel)
set_option maxRecDepth 65536 in
theorem w_c13 : (Jvm.Cond.code ({ cls := "java/util/BitSet", name := "checkInvariants", desc := "()V" } : Jvm.MethodName) jdk_92_method_2_code (1 : Nat) (Option.none : Option Jvm.ClassFile.FieldType)).before args0 about1 = true := code_word (m := ⟨10, 1⟩) (meth := k10m1) (c := k10c1) (by decide +kernel) rfl rfl rfl (by decide +kernel)
def codes1 : List Jvm.Cond := [Jvm.Cond.code x code maxLocals ret, Jvm.Cond.code ({ cls := "com/example/vetd/vetd/Policy$ActionRules", name := "<init>", desc := "(I)V" } : Jvm.MethodName) prog_19_method_1_code (2 : Nat) (Option.none : Option Jvm.ClassFile.FieldType), Jvm.Cond.code ({ cls := "java/lang/Object", name := "<init>", desc := "()V" } : Jvm.MethodName) object_method_1_code (1 : Nat) (Option.none : Option Jvm.ClassFile.FieldType), Jvm.Cond.code ({ cls := "java/util/HashMap", name := "<init>", desc := "()V" } : Jvm.MethodName) jdk_69_method_7_code (1 : Nat) (Option.none : Option Jvm.ClassFile.FieldType), Jvm.Cond.code ({ cls := "java/util/AbstractMap", name := "<init>", desc := "()V" } : Jvm.MethodName) jdk_71_method_1_code (1 : Nat) (Option.none : Option Jvm.ClassFile.FieldType), Jvm.Cond.code ({ cls := "com/example/vetd/vetd/JointLines", name := "<init>", desc := "()V" } : Jvm.MethodName) prog_14_method_1_code (1 : Nat) (Option.none : Option Jvm.ClassFile.FieldType), Jvm.Cond.code ({ cls := "com/example/vetd/vetd/Policy$Lines", name := "<init>", desc := "()V" } : Jvm.MethodName) prog_20_method_1_code (1 : Nat) (Option.none : Option Jvm.ClassFile.FieldType), Jvm.Cond.code ({ cls := "java/util/BitSet", name := "<init>", desc := "()V" } : Jvm.MethodName) jdk_92_method_4_code (1 : Nat) (Option.none : Option Jvm.ClassFile.FieldType), Jvm.Cond.code ({ cls := "java/util/BitSet", name := "initWords", desc := "(I)V" } : Jvm.MethodName) jdk_92_method_6_code (2 : Nat) (Option.none : Option Jvm.ClassFile.FieldType), Jvm.Cond.code ({ cls := "java/util/BitSet", name := "wordIndex", desc := "(I)I" } : Jvm.MethodName) jdk_92_method_1_code (1 : Nat) (Option.some Jvm.ClassFile.FieldType.int), Jvm.Cond.code ({ cls := "com/example/vetd/vetd/Policy$ActionRules", name := "linesOf", desc := "(I)Lcom/example/vetd/vetd/Policy$Lines;" } : Jvm.MethodName) prog_19_method_2_code (2 : Nat) (Option.some (Jvm.ClassFile.FieldType.object "com/example/vetd/vetd/Policy$Lines")), Jvm.Cond.code ({ cls := "com/example/vetd/vetd/Policy$Lines", name := "answer", desc := "([I)Lcom/example/vetd/vetd/Decision;" } : Jvm.MethodName) prog_20_method_2_code (7 : Nat) (Option.some (Jvm.ClassFile.FieldType.object "com/example/vetd/vetd/Decision")), Jvm.Cond.code ({ cls := "java/util/BitSet", name := "get", desc := "(I)Z" } : Jvm.MethodName) jdk_92_method_26_code (3 : Nat) (Option.some Jvm.ClassFile.FieldType.boolean), Jvm.Cond.code ({ cls := "java/util/BitSet", name := "checkInvariants", desc := "()V" } : Jvm.MethodName) jdk_92_method_2_code (1 : Nat) (Option.none : Option Jvm.ClassFile.FieldType)]
set_option maxRecDepth 65536 in
theorem codes_eq : words1.filter isCode = codes1 := rfl
theorem w_codes : ∀ c ∈ words1.filter isCode, c.before args0 about1 = true := by
  rw [codes_eq]
  intro c hc
  simp only [codes1, List.mem_cons, List.not_mem_nil, or_false] at hc
  rcases hc with rfl | rfl | rfl | rfl | rfl | rfl | rfl | rfl | rfl | rfl | rfl | rfl | rfl | rfl
  · exact w_c0
  · exact w_c1
  · exact w_c2
  · exact w_c3
  · exact w_c4
  · exact w_c5
  · exact w_c6
  · exact w_c7
  · exact w_c8
  · exact w_c9
  · exact w_c10
  · exact w_c11
  · exact w_c12
  · exact w_c13
set_option maxRecDepth 65536 in
theorem w_t1 : (words1.take 24).all (fun c => isCode c || c.before args0 about1) = true := by decide +kernel
set_option maxRecDepth 65536 in
theorem w_t2 : ((words1.drop 24).take 24).all (fun c => isCode c || c.before args0 about1) = true := by decide +kernel
set_option maxRecDepth 65536 in
theorem w_t3 : (((words1.drop 24).drop 24).take 24).all (fun c => isCode c || c.before args0 about1) = true := by decide +kernel
set_option maxRecDepth 65536 in
theorem w_t4 : ((((words1.drop 24).drop 24).drop 24).take 24).all (fun c => isCode c || c.before args0 about1) = true := by decide +kernel
set_option maxRecDepth 65536 in
theorem w_t5 : ((((words1.drop 24).drop 24).drop 24).drop 24).all (fun c => isCode c || c.before args0 about1) = true := by decide +kernel
theorem w_tables : (allAtoms (Jvm.Cond.code x code maxLocals ret :: tables_1)).before args0 about1 = true := by
  rw [allAtoms_all]
  show words1.all (fun c => c.before args0 about1) = true
  refine all_split ?_ w_codes
  rw [← List.take_append_drop 24 words1, List.all_append, w_t1, ← List.take_append_drop 24 (words1.drop 24), List.all_append, w_t2, ← List.take_append_drop 24 ((words1.drop 24).drop 24), List.all_append, w_t3, ← List.take_append_drop 24 (((words1.drop 24).drop 24).drop 24), List.all_append, w_t4, w_t5]
  rfl
set_option maxRecDepth 65536 in
theorem w_rest : rest_1_c.before args0 about1 = true := by decide +kernel
set_option maxRecDepth 65536 in
theorem w_case : (Jvm.Cond.and given_1 narrow_1).before args0 about1 = true := by decide +kernel
theorem w_applies : (headSpec (Jvm.Cond.code x code maxLocals ret :: tables_1) room_1).applies x e0.platform about1 = true :=
  (Spec.applies_iff w_frames).mpr ⟨w_running, w_runnable, w_alone, w_named, w_hears, w_ripe, w_room, w_tables⟩
theorem atStart : AtStart classFile x code maxLocals ret World_1 tables_1 room_1 Calls_1 rest_1 Pre_1 launch0 p0 e0 about1 theMethod args0 below0 :=
  ⟨lists_1, trivial, launch0.admits_env _ _ _, launch0.least_env, fairChoices_fair.cas, fairChoices_fair.clock, w_frames, w_args, w_heap, w_applies, trivial, w_rest, w_case⟩
end start1
theorem witness_1 : WitnessClaimed_1 := ⟨start1.p0, start1.e0, start1.about1, start1.theMethod, start1.args0, start1.below0, start1.atStart⟩
end Jvm.Pilot.@@N@@
