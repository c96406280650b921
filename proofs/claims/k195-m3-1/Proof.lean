import JvmDerived
import JvmDerived.Pilot.@@N@@Statement
import JvmDerived.Pilot.@@N@@Code
set_option linter.unusedVariables false
set_option linter.unusedSimpArgs false
namespace Jvm.RoadKit
open Sem ClassFile Op Lib Jvm.Stand Jvm.Free Jvm.LawKit
section New
variable {p : Program} {l : Launch} {e : Env} {R : Room} {s : State} {m : MethodId} {args : Array Value} {below : List Frame} {meth : Method} {c : Code} {T : State} {locs : List Loc} {cells slots : Nat}
theorem retI (X : Stand p l e R s m args below meth c T locs cells slots) (hx : p.tables.exec = Jvm.exec) {pc : Nat} {Ls : Array Slot} {z : Int32} {rest : List Value} (hret : meth.sig.returnType = some .int) (hd : decode c.code pc = .ok (.ireturn, 1)) {fs : List Frame}
    (hl : ∀ (f : JFrame) (acts : List Action), f.method = m → f.locked = none → f.entered = [] → (doReturn e (T.setTop f) acts (some (.int z))).1 = T.setFrames fs) : Steps p.tables e below (T.setTop (mkF m pc Ls (.int z :: rest))) (T.setFrames fs) := by
  have hm' : T.vm.method? m = some meth := X.method'
  have hn : narrow .int (.int z) = .int z := rfl
  show Steps p.tables e below (T.setTop { method := m, pc := pc, locals := Ls, stack := _ :: rest, locked := none }) _
  jvm_step X.here [X.here.top, hx, hd, hm', hret, hn]
  first | (intro acts; rw [hl _ acts rfl rfl rfl]) | rw [hl _ _ rfl rfl rfl]
  exact Steps.refl _
end New
end Jvm.RoadKit
namespace Jvm.Pilot.@@N@@
open Jvm Jvm.ClassFile Sem Op Lib Jvm.Free Jvm.Stand Jvm.LawKit Jvm.RoadKit Bundle Jvm.Pilot.@@N@@.Jvm.D
theorem tk {L : List Jvm.Cond} {d : Jvm.Cond} (i : Nat) (h : L[i]? = some d) : d ∈ L := List.mem_of_getElem? h
/-! own small facts: what the case says of a pinned static's field -/
theorem own_fld {args : Array Value} {s : State} {t : Term} {C n d : String} {w : Addr} {k : Int32} (ht : t.eval args s none [] s = some (.ref w)) (h : (Cond.eq (.field t C n d) (.int k)).value args s none s [] = some true) : Fld s s.heap w C n d (.int k) := by
  obtain ⟨x, y, hx, hy, -, kin⟩ := cmp_v (Or.inl h)
  obtain rfl : Value.int k = y := Option.some.inj hy
  obtain ⟨z, rfl⟩ := kin
  have e : z = k := by simpa [Cond.value, hx, hy] using h
  subst e
  exact Fld.start ((fld_at ht).symm.trans hx)
theorem own_fldN {args : Array Value} {s : State} {t : Term} {C n d : String} {w : Addr} (ht : t.eval args s none [] s = some (.ref w)) (h : (Cond.eq (.field t C n d) .null).value args s none s [] = some true) : Fld s s.heap w C n d .null :=
  Fld.start ((fld_at ht).symm.trans (null_v h))
theorem own_nsroot {Z : State} {a0 : Array Value} {O K : String} {n : Nat} (w : (Cond.noSuperclass O).before a0 Z = true) (wk : (Cond.instantiable K n).before a0 Z = true) (hn : O ≠ K) : NS Z O K := by
  obtain ⟨c, k, h1, h2, h3, -, -⟩ := Cond.noSuperclass_spec w
  obtain ⟨t, -, g1, -⟩ := Cond.instantiable_spec wk
  have ne := ids_ne h1 g1 hn
  refine ⟨c, t, h1, g1, fun fuel => ?_⟩
  cases fuel with
  | zero => rfl
  | succ f => simp [Vm.isSubclassAux, ne, h2, h3]
theorem own_nsno {Z : State} {a0 : Array Value} {C S K : String} {n : Nat} (w : (Cond.superclass C S).before a0 Z = true) (wk : (Cond.instantiable K n).before a0 Z = true) (ns : NS Z C K) (hn : C ≠ K) : ∃ c t, Z.vm.findClass C = some c ∧ Z.vm.findClass K = some t ∧ Z.vm.assignable c t = false := by
  obtain ⟨c, t, h0, g0, n3⟩ := ns
  obtain ⟨p, k, kp, h1, h2, h3, h4, h5, -, h7⟩ := Cond.superclass_spec h0 w
  obtain ⟨t', k', g1, g2, g3, g4, -⟩ := Cond.instantiable_spec wk
  cases g0.symm.trans g1
  have ne := ids_ne h0 g0 hn
  have g5 : k'.isInterface = false := (Bool.or_eq_false_iff.mp g4).1
  refine ⟨c, t, h0, g0, ?_⟩
  show Z.vm.assignableAux (255 + 1) c t = false
  simp [Vm.assignableAux, ne, h2, g2, h5, g3, g5, Vm.isSubclass, n3]
theorem own_nar {v : Value} {C : String} (h : v.isRef = true) : narrow (.object C) v = v := by rcases ref_cases h with rfl | ⟨a, rfl⟩ <;> rfl
theorem own_fit {v : Value} {C : String} (h : v.isRef = true) : fits (.object C) v = true := by rcases ref_cases h with rfl | ⟨a, rfl⟩ <;> rfl
theorem own_refof {v : Value} (h : v.isRef = true) (n : ¬ v = .null) : ∃ a, v = .ref a := (ref_cases h).elim (fun q => absurd q n) id
theorem own_sint {args : Array Value} {s : State} {t : Term} {k : Int32} (h : (Cond.eq t (.int k)).value args s none s [] = some true) : t.eval args s none [] s = some (.int k) := by
  obtain ⟨x, y, hx, hy, -, kin⟩ := cmp_v (Or.inl h)
  obtain rfl : Value.int k = y := Option.some.inj hy
  obtain ⟨z, rfl⟩ := kin
  have e : z = k := by simpa [Cond.value, hx, hy] using h
  subst e; exact hx
theorem own_snot {args : Array Value} {s : State} {t : Term} {k z : Int32} (ht : t.eval args s none [] s = some (.int z)) (h : (Cond.not (Cond.eq t (.int k))).value args s none s [] = some true) : ¬ z = k := by
  have := not_v h
  intro e
  subst e
  simp [Cond.value, ht, Term.eval] at this
theorem own_seq {args : Array Value} {s : State} {t u : Term} {a b : Addr} (ht : t.eval args s none [] s = some (.ref a)) (hu : u.eval args s none [] s = some (.ref b)) (h : (Cond.eq t u).value args s none s [] = some true) : b = a := by
  have e : a = b := by simpa [Cond.value, ht, hu] using h
  exact e.symm
theorem own_len {args : Array Value} {s : State} {t : Term} {a : Addr} {c : Cell} {ty : FieldType} {n : Int32} (ht : t.eval args s none [] s = some (.ref a)) (A : Arr s s.heap a c ty) (h : (Cond.eq (.length t) (.int n)).value args s none s [] = some true) : c.slots.size < 2 ^ 31 ∧ c.slots.size.toInt32 = n := by
  have e0 := own_sint h
  have hfin := A.fin (Vm.Alike.refl _)
  by_cases hl : c.slots.size < 2 ^ 31
  · rw [len_f ht hfin hl] at e0
    exact ⟨hl, Value.int.inj (Option.some.inj e0)⟩
  · exfalso
    simp [Term.eval, ht, hfin, hl] at e0
theorem own_elem {args : Array Value} {s : State} {t u : Term} {a w : Addr} {c : Cell} {i : Int32} (ht : t.eval args s none [] s = some (.ref a)) (hc : s.heap[a]? = some c) (hu : u.eval args s none [] s = some (.ref w)) (h : (Cond.eq (.elem t (.int i)) u).value args s none s [] = some true) : c.slots[i.toNatClampNeg]? = some (.ref w) := by
  obtain ⟨x, y, hx, hy, k1, k2⟩ := cmp_v (Or.inl h)
  obtain rfl : Value.ref w = y := Option.some.inj (hu.symm.trans hy)
  have e := gotT (eq_R hx hu k2.2 rfl) h
  rw [e] at hx
  exact (elem_in hx ht (Term.int_eval i) hc).2
theorem own_ldcF {p : Program} {l : Launch} {e : Env} {R : Room} {s : State} {m : MethodId} {args : Array Value} {below : List Frame} {meth : Method} {c : Code} {T : State} {locs : List Loc} {cells slots : Nat}
    (X : Stand p l e R s m args below meth c T locs cells slots) (hx : p.tables.exec = Jvm.exec) {own : String} {index : Nat} {b : UInt32} (hown : s.vm.findClass own = some m.cls) (w : (Cond.constantFloat own index b).before args s = true) {g : JFrame} (hg : g.method = m) (hd : decode c.code g.pc = .ok (.ldc index, 2)) :
    ∀ target, Steps p.tables e below (T.setTop { g with pc := g.pc + 2, stack := .float b :: g.stack }) target → Steps p.tables e below (T.setTop g) target := by
  obtain ⟨k, cf, h1, h2, h3⟩ := Cond.constantFloat_spec hown w
  exact X.ldcFloat hx h1 h2 h3 hg hd
theorem own_iteR {c : Prop} [Decidable c] {a b : Value} (ha : a.isRef = true) (hb : b.isRef = true) : (if c then a else b).isRef = true := by split <;> assumption
theorem own_iteE {c P : Prop} [Decidable c] {a b : Value} {x : Addr} (h : (if c then a else b) = .ref x) (ha : a = .ref x → P) (hb : b = .ref x → P) : P := by
  split at h
  · exact ha h
  · exact hb h
theorem own_old {Z : State} {n0 : Nat} {h : Heap} (O : Old Z n0 h) : n0 ≤ h.size := O.1 ▸ O.2.1
theorem own_rand (x m : Int32) (n : Int) (h0 : 0 ≤ m.toInt) (h1 : m.toInt < n) : 0 ≤ (x &&& m).toInt ∧ (x &&& m).toInt < n := by
  have := c_and x m h0; omega
theorem own_rrem (x y : Int32) (n : Int) (h0 : 0 ≤ x.toInt) (hy : y.toInt = n) (hn : 0 < n) : 0 ≤ (x % y).toInt ∧ (x % y).toInt < n := by
  rw [(c_irem x y n hy).1 h0]; exact ⟨Int.emod_nonneg _ (by omega), Int.emod_lt_of_pos _ hn⟩
theorem own_rshr (x q : Int32) (k : Nat) (m : Int) {n : Int} (r : 0 ≤ x.toInt ∧ x.toInt < n) (hk : q.toBitVec.toNat % 32 = k) (hm : (n - 1) / ((2 ^ k : Nat) : Int) < m) : 0 ≤ (x >>> (q &&& 31)).toInt ∧ (x >>> (q &&& 31)).toInt < m := by
  rw [c_ishr x q k hk]
  have hp : (0 : Int) < ((2 ^ k : Nat) : Int) := by exact_mod_cast Nat.two_pow_pos k
  exact ⟨Int.ediv_nonneg r.1 (Int.le_of_lt hp), Int.lt_of_le_of_lt (Int.ediv_le_ediv hp (by omega)) hm⟩
theorem own_off {e c : Int32} {n : Int} (r : 0 ≤ e.toInt ∧ e.toInt < n) (h : decide (n ≤ c.toInt ∨ c.toInt < 0) = true) : ¬ e = c := fun z => by
  subst z
  have := of_decide_eq_true h
  omega
theorem own_below {e c : Int32} {n : Int} (r : 0 ≤ e.toInt ∧ e.toInt < n) (h : n ≤ c.toInt) : e < c := by rw [Int32.lt_iff_toInt_lt]; omega
theorem own_notbelow {e c : Int32} {n : Int} (r : 0 ≤ e.toInt ∧ e.toInt < n) (h : c.toInt ≤ 0) : ¬ e < c := by rw [Int32.lt_iff_toInt_lt]; omega
theorem own_notabove {e c : Int32} {n : Int} (r : 0 ≤ e.toInt ∧ e.toInt < n) (h : n - 1 ≤ c.toInt) : ¬ c < e := by rw [Int32.lt_iff_toInt_lt]; omega
theorem own_above {e c : Int32} {n : Int} (r : 0 ≤ e.toInt ∧ e.toInt < n) (h : c.toInt < 0) : c < e := by rw [Int32.lt_iff_toInt_lt]; omega
theorem own_lt {a b : Int32} {n : Int} (h : a < b) (e : b.toInt = n) : a.toInt < n := by rw [← e]; exact Int32.lt_iff_toInt_lt.mp h
theorem own_ne {a b : Int32} {n : Int} (h : ¬ a = b) (e : b.toInt = n) : a.toInt ≠ n := fun z => h (Int32.toInt_inj.mp (z.trans e.symm))
theorem own_eq {a b : Int32} {n : Int} (e : b.toInt = n) (h : a.toInt = n) : a = b := Int32.toInt_inj.mp (h.trans e.symm)
abbrev Sp (p : Program) (e : Env) (below : List Frame) (T : State) (f : JFrame) (t : State) : Prop := Steps p.tables e below (T.setTop f) t
abbrev Cm (p : Program) (e : Env) (below : List Frame) (E a : State) : Prop := ∀ t, Steps p.tables e below a t → Steps p.tables e below E t
abbrev lt1 (a0 : Int32) (a1 : Int32) (a2 : Int32) (a3 : Int32) (a4 : Int32) : Array Slot := #[.val (.int a0), .val (.int a1), .val (.int a2), .val (.int a3), .val (.int a4), .unset, .unset, .unset, .unset, .unset, .unset, .unset, .unset, .unset, .unset, .unset]
abbrev lt2 (a0 : Int32) (a1 : Int32) (a2 : Int32) (a3 : Int32) (a4 : Int32) (a5 : Int32) : Array Slot := #[.val (.int a0), .val (.int a1), .val (.int a2), .val (.int a3), .val (.int a4), .val (.int a5), .unset, .unset, .unset, .unset, .unset, .unset, .unset, .unset, .unset, .unset]
theorem d1_0 : decode prog_20_method_1_code 0 = .ok (.aload_n 0, 1) := by decide +kernel
abbrev lt3 (a0 : Addr) : Array Slot := #[.val (.ref a0)]
theorem d1_1 : decode prog_20_method_1_code 1 = .ok (.invokespecial 1, 3) := by decide +kernel
theorem d1_4 : decode prog_20_method_1_code 4 = .ok (.aload_n 0, 1) := by decide +kernel
theorem d1_5 : decode prog_20_method_1_code 5 = .ok (.new 7, 3) := by decide +kernel
theorem d1_8 : decode prog_20_method_1_code 8 = .ok (.dup, 1) := by decide +kernel
theorem d1_9 : decode prog_20_method_1_code 9 = .ok (.invokespecial 9, 3) := by decide +kernel
theorem d3_0 : decode jdk_92_method_4_code 0 = .ok (.aload_n 0, 1) := by decide +kernel
theorem d3_1 : decode jdk_92_method_4_code 1 = .ok (.invokespecial 21, 3) := by decide +kernel
theorem d3_4 : decode jdk_92_method_4_code 4 = .ok (.aload_n 0, 1) := by decide +kernel
theorem d3_5 : decode jdk_92_method_4_code 5 = .ok (.iconst 0, 1) := by decide +kernel
theorem d3_6 : decode jdk_92_method_4_code 6 = .ok (.putfield 7, 3) := by decide +kernel
theorem d3_9 : decode jdk_92_method_4_code 9 = .ok (.aload_n 0, 1) := by decide +kernel
theorem d3_10 : decode jdk_92_method_4_code 10 = .ok (.iconst 0, 1) := by decide +kernel
theorem d3_11 : decode jdk_92_method_4_code 11 = .ok (.putfield 24, 3) := by decide +kernel
theorem d3_14 : decode jdk_92_method_4_code 14 = .ok (.aload_n 0, 1) := by decide +kernel
theorem d3_15 : decode jdk_92_method_4_code 15 = .ok (.bipush 64, 2) := by decide +kernel
theorem d3_17 : decode jdk_92_method_4_code 17 = .ok (.invokevirtual 27, 3) := by decide +kernel
theorem d4_0 : decode jdk_92_method_6_code 0 = .ok (.aload_n 0, 1) := by decide +kernel
abbrev lt4 (a0 : Addr) (a1 : Int32) : Array Slot := #[.val (.ref a0), .val (.int a1)]
theorem d4_1 : decode jdk_92_method_6_code 1 = .ok (.iload_n 1, 1) := by decide +kernel
theorem d4_2 : decode jdk_92_method_6_code 2 = .ok (.iconst 1, 1) := by decide +kernel
theorem d4_3 : decode jdk_92_method_6_code 3 = .ok (.isub, 1) := by decide +kernel
theorem d4_4 : decode jdk_92_method_6_code 4 = .ok (.invokestatic 52, 3) := by decide +kernel
theorem d5_0 : decode jdk_92_method_1_code 0 = .ok (.iload_n 0, 1) := by decide +kernel
abbrev lt5 (a0 : Int32) : Array Slot := #[.val (.int a0)]
theorem d5_1 : decode jdk_92_method_1_code 1 = .ok (.bipush 6, 2) := by decide +kernel
theorem d5_3 : decode jdk_92_method_1_code 3 = .ok (.ishr, 1) := by decide +kernel
theorem d5_4 : decode jdk_92_method_1_code 4 = .ok (.ireturn, 1) := by decide +kernel
abbrev Y5 : MethodName := (⟨"java/util/BitSet", "wordIndex", "(I)I"⟩ : MethodName)
theorem pd_0 : parseMethodDescriptor "(I)I" = some ⟨[.int], some .int⟩ := by decide +kernel
theorem d4_7 : decode jdk_92_method_6_code 7 = .ok (.iconst 1, 1) := by decide +kernel
theorem d4_8 : decode jdk_92_method_6_code 8 = .ok (.iadd, 1) := by decide +kernel
theorem d4_9 : decode jdk_92_method_6_code 9 = .ok (.newarray .long, 2) := by decide +kernel
theorem d4_11 : decode jdk_92_method_6_code 11 = .ok (.putfield 11, 3) := by decide +kernel
theorem d4_14 : decode jdk_92_method_6_code 14 = .ok (.return_, 1) := by decide +kernel
abbrev Y6 : MethodName := (⟨"java/util/BitSet", "initWords", "(I)V"⟩ : MethodName)
theorem pd_1 : parseMethodDescriptor "(I)V" = some ⟨[.int], none⟩ := by decide +kernel
theorem d3_20 : decode jdk_92_method_4_code 20 = .ok (.aload_n 0, 1) := by decide +kernel
theorem d3_21 : decode jdk_92_method_4_code 21 = .ok (.iconst 0, 1) := by decide +kernel
theorem d3_22 : decode jdk_92_method_4_code 22 = .ok (.putfield 24, 3) := by decide +kernel
theorem d3_25 : decode jdk_92_method_4_code 25 = .ok (.return_, 1) := by decide +kernel
abbrev Y7 : MethodName := (⟨"java/util/BitSet", "<init>", "()V"⟩ : MethodName)
theorem pd_2 : parseMethodDescriptor "()V" = some ⟨[], none⟩ := by decide +kernel
theorem d1_12 : decode prog_20_method_1_code 12 = .ok (.putfield 10, 3) := by decide +kernel
theorem d1_15 : decode prog_20_method_1_code 15 = .ok (.aload_n 0, 1) := by decide +kernel
theorem d1_16 : decode prog_20_method_1_code 16 = .ok (.new 7, 3) := by decide +kernel
theorem d1_19 : decode prog_20_method_1_code 19 = .ok (.dup, 1) := by decide +kernel
theorem d1_20 : decode prog_20_method_1_code 20 = .ok (.invokespecial 9, 3) := by decide +kernel
theorem d1_23 : decode prog_20_method_1_code 23 = .ok (.putfield 16, 3) := by decide +kernel
theorem d1_26 : decode prog_20_method_1_code 26 = .ok (.return_, 1) := by decide +kernel
abbrev Y8 : MethodName := (⟨"com/example/vetd/vetd/Policy$Lines", "<init>", "()V"⟩ : MethodName)
abbrev lt6 (a0 : Int32) (a1 : Int32) (a2 : Int32) (a3 : Int32) (a4 : Int32) (a5 : Int32) (a6 : Addr) : Array Slot := #[.val (.int a0), .val (.int a1), .val (.int a2), .val (.int a3), .val (.int a4), .val (.int a5), .val (.ref a6), .unset, .unset, .unset, .unset, .unset, .unset, .unset, .unset, .unset]
theorem d6_0 : decode jdk_92_method_19_code 0 = .ok (.iload_n 1, 1) := by decide +kernel
abbrev lt7 (a0 : Addr) (a1 : Int32) : Array Slot := #[.val (.ref a0), .val (.int a1), .unset]
theorem d6_1 : decode jdk_92_method_19_code 1 = .ok (.ifCond .ge 30, 3) := by decide +kernel
theorem d6_31 : decode jdk_92_method_19_code 31 = .ok (.iload_n 1, 1) := by decide +kernel
theorem d6_32 : decode jdk_92_method_19_code 32 = .ok (.invokestatic 52, 3) := by decide +kernel
theorem d6_35 : decode jdk_92_method_19_code 35 = .ok (.istore_n 2, 1) := by decide +kernel
abbrev lt8 (a0 : Addr) (a1 : Int32) (a2 : Int32) : Array Slot := #[.val (.ref a0), .val (.int a1), .val (.int a2)]
theorem d6_36 : decode jdk_92_method_19_code 36 = .ok (.aload_n 0, 1) := by decide +kernel
theorem d6_37 : decode jdk_92_method_19_code 37 = .ok (.iload_n 2, 1) := by decide +kernel
theorem d6_38 : decode jdk_92_method_19_code 38 = .ok (.invokevirtual 155, 3) := by decide +kernel
theorem d7_0 : decode jdk_92_method_15_code 0 = .ok (.iload_n 1, 1) := by decide +kernel
theorem d7_1 : decode jdk_92_method_15_code 1 = .ok (.iconst 1, 1) := by decide +kernel
theorem d7_2 : decode jdk_92_method_15_code 2 = .ok (.iadd, 1) := by decide +kernel
theorem d7_3 : decode jdk_92_method_15_code 3 = .ok (.istore_n 2, 1) := by decide +kernel
theorem d7_4 : decode jdk_92_method_15_code 4 = .ok (.aload_n 0, 1) := by decide +kernel
theorem d7_5 : decode jdk_92_method_15_code 5 = .ok (.getfield 7, 3) := by decide +kernel
theorem d7_8 : decode jdk_92_method_15_code 8 = .ok (.iload_n 2, 1) := by decide +kernel
theorem d7_9 : decode jdk_92_method_15_code 9 = .ok (.if_icmp .ge 13, 3) := by decide +kernel
theorem d7_12 : decode jdk_92_method_15_code 12 = .ok (.aload_n 0, 1) := by decide +kernel
theorem d7_13 : decode jdk_92_method_15_code 13 = .ok (.iload_n 2, 1) := by decide +kernel
theorem d7_14 : decode jdk_92_method_15_code 14 = .ok (.invokevirtual 139, 3) := by decide +kernel
theorem d8_0 : decode jdk_92_method_14_code 0 = .ok (.aload_n 0, 1) := by decide +kernel
theorem d8_1 : decode jdk_92_method_14_code 1 = .ok (.getfield 11, 3) := by decide +kernel
theorem d8_4 : decode jdk_92_method_14_code 4 = .ok (.arraylength, 1) := by decide +kernel
theorem d8_5 : decode jdk_92_method_14_code 5 = .ok (.iload_n 1, 1) := by decide +kernel
theorem d8_6 : decode jdk_92_method_14_code 6 = .ok (.if_icmp .ge 32, 3) := by decide +kernel
theorem d8_9 : decode jdk_92_method_14_code 9 = .ok (.iconst 2, 1) := by decide +kernel
theorem d8_10 : decode jdk_92_method_14_code 10 = .ok (.aload_n 0, 1) := by decide +kernel
theorem d8_11 : decode jdk_92_method_14_code 11 = .ok (.getfield 11, 3) := by decide +kernel
theorem d8_14 : decode jdk_92_method_14_code 14 = .ok (.arraylength, 1) := by decide +kernel
theorem d8_15 : decode jdk_92_method_14_code 15 = .ok (.imul, 1) := by decide +kernel
theorem d8_16 : decode jdk_92_method_14_code 16 = .ok (.iload_n 1, 1) := by decide +kernel
theorem d8_17 : decode jdk_92_method_14_code 17 = .ok (.invokestatic 133, 3) := by decide +kernel
theorem d13_0 : decode jdk_29_method_65_code 0 = .ok (.iload_n 0, 1) := by decide +kernel
abbrev lt9 (a0 : Int32) (a1 : Int32) : Array Slot := #[.val (.int a0), .val (.int a1)]
theorem d13_1 : decode jdk_29_method_65_code 1 = .ok (.iload_n 1, 1) := by decide +kernel
theorem d13_2 : decode jdk_29_method_65_code 2 = .ok (.if_icmp .lt 7, 3) := by decide +kernel
theorem d13_9 : decode jdk_29_method_65_code 9 = .ok (.iload_n 1, 1) := by decide +kernel
theorem d13_10 : decode jdk_29_method_65_code 10 = .ok (.ireturn, 1) := by decide +kernel
theorem d13_5 : decode jdk_29_method_65_code 5 = .ok (.iload_n 0, 1) := by decide +kernel
theorem d13_6 : decode jdk_29_method_65_code 6 = .ok (.goto 4, 3) := by decide +kernel
abbrev Y13 : MethodName := (⟨"java/lang/Math", "max", "(II)I"⟩ : MethodName)
theorem pd_3 : parseMethodDescriptor "(II)I" = some ⟨[.int, .int], some .int⟩ := by decide +kernel
theorem d8_20 : decode jdk_92_method_14_code 20 = .ok (.istore_n 2, 1) := by decide +kernel
theorem d8_21 : decode jdk_92_method_14_code 21 = .ok (.aload_n 0, 1) := by decide +kernel
theorem d8_22 : decode jdk_92_method_14_code 22 = .ok (.aload_n 0, 1) := by decide +kernel
theorem d8_23 : decode jdk_92_method_14_code 23 = .ok (.getfield 11, 3) := by decide +kernel
theorem d8_26 : decode jdk_92_method_14_code 26 = .ok (.iload_n 2, 1) := by decide +kernel
theorem d8_27 : decode jdk_92_method_14_code 27 = .ok (.invokestatic 59, 3) := by decide +kernel
theorem d14_0 : decode jdk_65_method_124_code 0 = .ok (.iload_n 1, 1) := by decide +kernel
theorem d14_1 : decode jdk_65_method_124_code 1 = .ok (.aload_n 0, 1) := by decide +kernel
theorem d14_2 : decode jdk_65_method_124_code 2 = .ok (.arraylength, 1) := by decide +kernel
theorem d14_3 : decode jdk_65_method_124_code 3 = .ok (.if_icmp .ne 11, 3) := by decide +kernel
theorem d14_14 : decode jdk_65_method_124_code 14 = .ok (.iload_n 1, 1) := by decide +kernel
theorem d14_15 : decode jdk_65_method_124_code 15 = .ok (.newarray .long, 2) := by decide +kernel
theorem d14_17 : decode jdk_65_method_124_code 17 = .ok (.astore_n 2, 1) := by decide +kernel
abbrev lt10 (a0 : Addr) (a1 : Int32) (a2 : Addr) : Array Slot := #[.val (.ref a0), .val (.int a1), .val (.ref a2)]
theorem d14_18 : decode jdk_65_method_124_code 18 = .ok (.aload_n 0, 1) := by decide +kernel
theorem d14_19 : decode jdk_65_method_124_code 19 = .ok (.iconst 0, 1) := by decide +kernel
theorem d14_20 : decode jdk_65_method_124_code 20 = .ok (.aload_n 2, 1) := by decide +kernel
theorem d14_21 : decode jdk_65_method_124_code 21 = .ok (.iconst 0, 1) := by decide +kernel
theorem d14_22 : decode jdk_65_method_124_code 22 = .ok (.aload_n 0, 1) := by decide +kernel
theorem d14_23 : decode jdk_65_method_124_code 23 = .ok (.arraylength, 1) := by decide +kernel
theorem d14_24 : decode jdk_65_method_124_code 24 = .ok (.iload_n 1, 1) := by decide +kernel
theorem d14_25 : decode jdk_65_method_124_code 25 = .ok (.invokestatic 304, 3) := by decide +kernel
theorem d15_0 : decode jdk_29_method_69_code 0 = .ok (.iload_n 0, 1) := by decide +kernel
theorem d15_1 : decode jdk_29_method_69_code 1 = .ok (.iload_n 1, 1) := by decide +kernel
theorem d15_2 : decode jdk_29_method_69_code 2 = .ok (.if_icmp .gt 7, 3) := by decide +kernel
theorem d15_9 : decode jdk_29_method_69_code 9 = .ok (.iload_n 1, 1) := by decide +kernel
theorem d15_10 : decode jdk_29_method_69_code 10 = .ok (.ireturn, 1) := by decide +kernel
theorem d15_5 : decode jdk_29_method_69_code 5 = .ok (.iload_n 0, 1) := by decide +kernel
theorem d15_6 : decode jdk_29_method_69_code 6 = .ok (.goto 4, 3) := by decide +kernel
abbrev Y15 : MethodName := (⟨"java/lang/Math", "min", "(II)I"⟩ : MethodName)
theorem d14_28 : decode jdk_65_method_124_code 28 = .ok (.invokestatic 150, 3) := by decide +kernel
theorem d14_31 : decode jdk_65_method_124_code 31 = .ok (.aload_n 2, 1) := by decide +kernel
theorem d14_32 : decode jdk_65_method_124_code 32 = .ok (.areturn, 1) := by decide +kernel
abbrev Y16 : MethodName := (⟨"java/util/Arrays", "copyOf", "([JI)[J"⟩ : MethodName)
theorem pd_4 : parseMethodDescriptor "([JI)[J" = some ⟨[(.array .long), .int], some (.array .long)⟩ := by decide +kernel
theorem d8_30 : decode jdk_92_method_14_code 30 = .ok (.putfield 11, 3) := by decide +kernel
theorem d8_33 : decode jdk_92_method_14_code 33 = .ok (.aload_n 0, 1) := by decide +kernel
theorem d8_34 : decode jdk_92_method_14_code 34 = .ok (.iconst 0, 1) := by decide +kernel
theorem d8_35 : decode jdk_92_method_14_code 35 = .ok (.putfield 24, 3) := by decide +kernel
theorem d8_38 : decode jdk_92_method_14_code 38 = .ok (.return_, 1) := by decide +kernel
abbrev Y17 : MethodName := (⟨"java/util/BitSet", "ensureCapacity", "(I)V"⟩ : MethodName)
theorem d7_17 : decode jdk_92_method_15_code 17 = .ok (.aload_n 0, 1) := by decide +kernel
theorem d7_18 : decode jdk_92_method_15_code 18 = .ok (.iload_n 2, 1) := by decide +kernel
theorem d7_19 : decode jdk_92_method_15_code 19 = .ok (.putfield 7, 3) := by decide +kernel
theorem d7_22 : decode jdk_92_method_15_code 22 = .ok (.return_, 1) := by decide +kernel
abbrev Y18 : MethodName := (⟨"java/util/BitSet", "expandTo", "(I)V"⟩ : MethodName)
theorem d6_41 : decode jdk_92_method_19_code 41 = .ok (.aload_n 0, 1) := by decide +kernel
theorem d6_42 : decode jdk_92_method_19_code 42 = .ok (.getfield 11, 3) := by decide +kernel
theorem d6_45 : decode jdk_92_method_19_code 45 = .ok (.iload_n 2, 1) := by decide +kernel
theorem d6_46 : decode jdk_92_method_19_code 46 = .ok (.dup2, 1) := by decide +kernel
theorem d6_47 : decode jdk_92_method_19_code 47 = .ok (.laload, 1) := by decide +kernel
theorem d6_48 : decode jdk_92_method_19_code 48 = .ok (.lconst 1, 1) := by decide +kernel
theorem d6_49 : decode jdk_92_method_19_code 49 = .ok (.iload_n 1, 1) := by decide +kernel
theorem d6_50 : decode jdk_92_method_19_code 50 = .ok (.lshl, 1) := by decide +kernel
theorem d6_51 : decode jdk_92_method_19_code 51 = .ok (.lor, 1) := by decide +kernel
theorem d6_52 : decode jdk_92_method_19_code 52 = .ok (.lastore, 1) := by decide +kernel
theorem d6_53 : decode jdk_92_method_19_code 53 = .ok (.aload_n 0, 1) := by decide +kernel
theorem d6_54 : decode jdk_92_method_19_code 54 = .ok (.invokevirtual 56, 3) := by decide +kernel
theorem d9_0 : decode jdk_92_method_2_code 0 = .ok (.getstatic 3, 3) := by decide +kernel
theorem d9_3 : decode jdk_92_method_2_code 3 = .ok (.ifCond .ne 34, 3) := by decide +kernel
theorem d9_37 : decode jdk_92_method_2_code 37 = .ok (.getstatic 3, 3) := by decide +kernel
theorem d9_40 : decode jdk_92_method_2_code 40 = .ok (.ifCond .ne 30, 3) := by decide +kernel
theorem d9_70 : decode jdk_92_method_2_code 70 = .ok (.getstatic 3, 3) := by decide +kernel
theorem d9_73 : decode jdk_92_method_2_code 73 = .ok (.ifCond .ne 37, 3) := by decide +kernel
theorem d9_110 : decode jdk_92_method_2_code 110 = .ok (.return_, 1) := by decide +kernel
abbrev Y19 : MethodName := (⟨"java/util/BitSet", "checkInvariants", "()V"⟩ : MethodName)
theorem d6_57 : decode jdk_92_method_19_code 57 = .ok (.return_, 1) := by decide +kernel
abbrev Y20 : MethodName := (⟨"java/util/BitSet", "set", "(I)V"⟩ : MethodName)
abbrev lt11 (a0 : Int32) (a1 : Int32) (a2 : Int32) (a3 : Int32) (a4 : Int32) (a5 : Int32) (a6 : Addr) (a7 : Int32) : Array Slot := #[.val (.int a0), .val (.int a1), .val (.int a2), .val (.int a3), .val (.int a4), .val (.int a5), .val (.ref a6), .val (.int a7), .unset, .unset, .unset, .unset, .unset, .unset, .unset, .unset]
abbrev lt12 (a0 : Int32) (a1 : Int32) (a2 : Int32) (a3 : Int32) (a4 : Int32) (a5 : Int32) (a6 : Addr) (a7 : Int32) (a8 : Int32) : Array Slot := #[.val (.int a0), .val (.int a1), .val (.int a2), .val (.int a3), .val (.int a4), .val (.int a5), .val (.ref a6), .val (.int a7), .val (.int a8), .unset, .unset, .unset, .unset, .unset, .unset, .unset]
abbrev lt13 (a0 : Int32) (a1 : Int32) (a2 : Int32) (a3 : Int32) (a4 : Int32) (a5 : Int32) (a6 : Addr) (a7 : Int32) (a8 : Int32) (a9 : Int32) : Array Slot := #[.val (.int a0), .val (.int a1), .val (.int a2), .val (.int a3), .val (.int a4), .val (.int a5), .val (.ref a6), .val (.int a7), .val (.int a8), .val (.int a9), .unset, .unset, .unset, .unset, .unset, .unset]
abbrev lt14 (a0 : Int32) (a1 : Int32) (a2 : Int32) (a3 : Int32) (a4 : Int32) (a5 : Int32) (a6 : Addr) (a7 : Int32) (a8 : Int32) (a9 : Int32) (a10 : Int32) : Array Slot := #[.val (.int a0), .val (.int a1), .val (.int a2), .val (.int a3), .val (.int a4), .val (.int a5), .val (.ref a6), .val (.int a7), .val (.int a8), .val (.int a9), .val (.int a10), .unset, .unset, .unset, .unset, .unset]
abbrev lt15 (a0 : Int32) (a1 : Int32) (a2 : Int32) (a3 : Int32) (a4 : Int32) (a5 : Int32) (a6 : Addr) (a7 : Int32) (a8 : Int32) (a9 : Int32) (a10 : Int32) (a11 : Addr) : Array Slot := #[.val (.int a0), .val (.int a1), .val (.int a2), .val (.int a3), .val (.int a4), .val (.int a5), .val (.ref a6), .val (.int a7), .val (.int a8), .val (.int a9), .val (.int a10), .val (.ref a11), .unset, .unset, .unset, .unset]
theorem d10_0 : decode prog_20_method_2_code 0 = .ok (.aconst_null, 1) := by decide +kernel
abbrev lt16 (a0 : Addr) (a1 : Addr) : Array Slot := #[.val (.ref a0), .val (.ref a1), .unset, .unset, .unset, .unset, .unset]
theorem d10_1 : decode prog_20_method_2_code 1 = .ok (.astore_n 2, 1) := by decide +kernel
abbrev lt17 (a0 : Addr) (a1 : Addr) : Array Slot := #[.val (.ref a0), .val (.ref a1), .val .null, .unset, .unset, .unset, .unset]
theorem d10_2 : decode prog_20_method_2_code 2 = .ok (.aload_n 1, 1) := by decide +kernel
theorem d10_3 : decode prog_20_method_2_code 3 = .ok (.astore_n 3, 1) := by decide +kernel
abbrev lt18 (a0 : Addr) (a1 : Addr) (a3 : Addr) : Array Slot := #[.val (.ref a0), .val (.ref a1), .val .null, .val (.ref a3), .unset, .unset, .unset]
theorem d10_4 : decode prog_20_method_2_code 4 = .ok (.aload_n 3, 1) := by decide +kernel
theorem d10_5 : decode prog_20_method_2_code 5 = .ok (.arraylength, 1) := by decide +kernel
theorem d10_6 : decode prog_20_method_2_code 6 = .ok (.istore 4, 2) := by decide +kernel
abbrev lt19 (a0 : Addr) (a1 : Addr) (a3 : Addr) (a4 : Int32) : Array Slot := #[.val (.ref a0), .val (.ref a1), .val .null, .val (.ref a3), .val (.int a4), .unset, .unset]
theorem d10_8 : decode prog_20_method_2_code 8 = .ok (.iconst 0, 1) := by decide +kernel
theorem d10_9 : decode prog_20_method_2_code 9 = .ok (.istore 5, 2) := by decide +kernel
abbrev lt20 (a0 : Addr) (a1 : Addr) (a3 : Addr) (a4 : Int32) (a5 : Int32) : Array Slot := #[.val (.ref a0), .val (.ref a1), .val .null, .val (.ref a3), .val (.int a4), .val (.int a5), .unset]
theorem d10_11 : decode prog_20_method_2_code 11 = .ok (.iload 5, 2) := by decide +kernel
theorem d10_13 : decode prog_20_method_2_code 13 = .ok (.iload 4, 2) := by decide +kernel
theorem d10_15 : decode prog_20_method_2_code 15 = .ok (.if_icmp .ge 47, 3) := by decide +kernel
theorem d10_62 : decode prog_20_method_2_code 62 = .ok (.aload_n 2, 1) := by decide +kernel
theorem d10_63 : decode prog_20_method_2_code 63 = .ok (.areturn, 1) := by decide +kernel
abbrev Y31 : MethodName := (⟨"com/example/vetd/vetd/Policy$Lines", "answer", "([I)Lcom/example/vetd/vetd/Decision;"⟩ : MethodName)
theorem pd_5 : parseMethodDescriptor "([I)Lcom/example/vetd/vetd/Decision;" = some ⟨[(.array .int)], some (.object "com/example/vetd/vetd/Decision")⟩ := by decide +kernel
abbrev lt21 (a0 : Int32) (a1 : Int32) (a2 : Int32) (a3 : Int32) (a4 : Int32) (a5 : Int32) (a6 : Addr) (a7 : Int32) (a8 : Int32) (a9 : Int32) (a10 : Int32) (a11 : Addr) : Array Slot := #[.val (.int a0), .val (.int a1), .val (.int a2), .val (.int a3), .val (.int a4), .val (.int a5), .val (.ref a6), .val (.int a7), .val (.int a8), .val (.int a9), .val (.int a10), .val (.ref a11), .val .null, .unset, .unset, .unset]
abbrev lt22 (a0 : Int32) (a1 : Int32) (a2 : Int32) (a3 : Int32) (a4 : Int32) (a5 : Int32) (a6 : Addr) (a7 : Int32) (a8 : Int32) (a9 : Int32) (a10 : Int32) (a11 : Addr) (a13 : Int32) : Array Slot := #[.val (.int a0), .val (.int a1), .val (.int a2), .val (.int a3), .val (.int a4), .val (.int a5), .val (.ref a6), .val (.int a7), .val (.int a8), .val (.int a9), .val (.int a10), .val (.ref a11), .val .null, .val (.int a13), .unset, .unset]
abbrev lt23 (a0 : Int32) (a1 : Int32) (a2 : Int32) (a3 : Int32) (a4 : Int32) (a5 : Int32) (a6 : Addr) (a7 : Int32) (a8 : Int32) (a9 : Int32) (a10 : Int32) (a11 : Addr) (a13 : Int32) (a14 : Int32) : Array Slot := #[.val (.int a0), .val (.int a1), .val (.int a2), .val (.int a3), .val (.int a4), .val (.int a5), .val (.ref a6), .val (.int a7), .val (.int a8), .val (.int a9), .val (.int a10), .val (.ref a11), .val .null, .val (.int a13), .val (.int a14), .unset]
abbrev lt24 (a0 : Int32) (a1 : Int32) (a2 : Int32) (a3 : Int32) (a4 : Int32) (a5 : Int32) (a6 : Addr) (a7 : Int32) (a8 : Int32) (a9 : Int32) (a10 : Int32) (a11 : Addr) (a13 : Int32) (a14 : Int32) : Array Slot := #[.val (.int a0), .val (.int a1), .val (.int a2), .val (.int a3), .val (.int a4), .val (.int a5), .val (.ref a6), .val (.int a7), .val (.int a8), .val (.int a9), .val (.int a10), .val (.ref a11), .val .null, .val (.int a13), .val (.int a14), .val .null]
theorem d10_18 : decode prog_20_method_2_code 18 = .ok (.aload_n 3, 1) := by decide +kernel
theorem d10_19 : decode prog_20_method_2_code 19 = .ok (.iload 5, 2) := by decide +kernel
theorem d10_21 : decode prog_20_method_2_code 21 = .ok (.iaload, 1) := by decide +kernel
theorem d10_22 : decode prog_20_method_2_code 22 = .ok (.istore 6, 2) := by decide +kernel
abbrev lt25 (a0 : Addr) (a1 : Addr) (a3 : Addr) (a4 : Int32) (a5 : Int32) (a6 : Int32) : Array Slot := #[.val (.ref a0), .val (.ref a1), .val .null, .val (.ref a3), .val (.int a4), .val (.int a5), .val (.int a6)]
theorem d10_24 : decode prog_20_method_2_code 24 = .ok (.aload_n 0, 1) := by decide +kernel
theorem d10_25 : decode prog_20_method_2_code 25 = .ok (.getfield 16, 3) := by decide +kernel
theorem d10_28 : decode prog_20_method_2_code 28 = .ok (.iload 6, 2) := by decide +kernel
theorem d10_30 : decode prog_20_method_2_code 30 = .ok (.invokevirtual 19, 3) := by decide +kernel
theorem d11_0 : decode jdk_92_method_26_code 0 = .ok (.iload_n 1, 1) := by decide +kernel
theorem d11_1 : decode jdk_92_method_26_code 1 = .ok (.ifCond .ge 30, 3) := by decide +kernel
theorem d11_31 : decode jdk_92_method_26_code 31 = .ok (.aload_n 0, 1) := by decide +kernel
theorem d11_32 : decode jdk_92_method_26_code 32 = .ok (.invokevirtual 56, 3) := by decide +kernel
theorem d11_35 : decode jdk_92_method_26_code 35 = .ok (.iload_n 1, 1) := by decide +kernel
theorem d11_36 : decode jdk_92_method_26_code 36 = .ok (.invokestatic 52, 3) := by decide +kernel
theorem d11_39 : decode jdk_92_method_26_code 39 = .ok (.istore_n 2, 1) := by decide +kernel
theorem d11_40 : decode jdk_92_method_26_code 40 = .ok (.iload_n 2, 1) := by decide +kernel
theorem d11_41 : decode jdk_92_method_26_code 41 = .ok (.aload_n 0, 1) := by decide +kernel
theorem d11_42 : decode jdk_92_method_26_code 42 = .ok (.getfield 7, 3) := by decide +kernel
theorem d11_45 : decode jdk_92_method_26_code 45 = .ok (.if_icmp .ge 22, 3) := by decide +kernel
theorem d11_48 : decode jdk_92_method_26_code 48 = .ok (.aload_n 0, 1) := by decide +kernel
theorem d11_49 : decode jdk_92_method_26_code 49 = .ok (.getfield 11, 3) := by decide +kernel
theorem d11_52 : decode jdk_92_method_26_code 52 = .ok (.iload_n 2, 1) := by decide +kernel
theorem d11_53 : decode jdk_92_method_26_code 53 = .ok (.laload, 1) := by decide +kernel
theorem d11_54 : decode jdk_92_method_26_code 54 = .ok (.lconst 1, 1) := by decide +kernel
theorem d11_55 : decode jdk_92_method_26_code 55 = .ok (.iload_n 1, 1) := by decide +kernel
theorem d11_56 : decode jdk_92_method_26_code 56 = .ok (.lshl, 1) := by decide +kernel
theorem d11_57 : decode jdk_92_method_26_code 57 = .ok (.land, 1) := by decide +kernel
theorem d11_58 : decode jdk_92_method_26_code 58 = .ok (.lconst 0, 1) := by decide +kernel
theorem d11_59 : decode jdk_92_method_26_code 59 = .ok (.lcmp, 1) := by decide +kernel
theorem d11_60 : decode jdk_92_method_26_code 60 = .ok (.ifCond .eq 7, 3) := by decide +kernel
theorem d11_67 : decode jdk_92_method_26_code 67 = .ok (.iconst 0, 1) := by decide +kernel
theorem d11_68 : decode jdk_92_method_26_code 68 = .ok (.ireturn, 1) := by decide +kernel
theorem d11_63 : decode jdk_92_method_26_code 63 = .ok (.iconst 1, 1) := by decide +kernel
theorem d11_64 : decode jdk_92_method_26_code 64 = .ok (.goto 4, 3) := by decide +kernel
abbrev Y37 : MethodName := (⟨"java/util/BitSet", "get", "(I)Z"⟩ : MethodName)
theorem pd_6 : parseMethodDescriptor "(I)Z" = some ⟨[.int], some .boolean⟩ := by decide +kernel
theorem d10_33 : decode prog_20_method_2_code 33 = .ok (.ifCond .eq 7, 3) := by decide +kernel
theorem d10_40 : decode prog_20_method_2_code 40 = .ok (.aload_n 0, 1) := by decide +kernel
theorem d10_41 : decode prog_20_method_2_code 41 = .ok (.getfield 10, 3) := by decide +kernel
theorem d10_44 : decode prog_20_method_2_code 44 = .ok (.iload 6, 2) := by decide +kernel
theorem d10_46 : decode prog_20_method_2_code 46 = .ok (.invokevirtual 19, 3) := by decide +kernel
theorem d10_49 : decode prog_20_method_2_code 49 = .ok (.ifCond .eq 7, 3) := by decide +kernel
theorem d10_56 : decode prog_20_method_2_code 56 = .ok (.iinc 5 1, 3) := by decide +kernel
theorem d10_59 : decode prog_20_method_2_code 59 = .ok (.goto (-48), 3) := by decide +kernel
theorem d10_52 : decode prog_20_method_2_code 52 = .ok (.getstatic 29, 3) := by decide +kernel
theorem d10_55 : decode prog_20_method_2_code 55 = .ok (.astore_n 2, 1) := by decide +kernel
abbrev lt26 (a0 : Addr) (a1 : Addr) (a2 : Addr) (a3 : Addr) (a4 : Int32) (a5 : Int32) (a6 : Int32) : Array Slot := #[.val (.ref a0), .val (.ref a1), .val (.ref a2), .val (.ref a3), .val (.int a4), .val (.int a5), .val (.int a6)]
theorem d10_36 : decode prog_20_method_2_code 36 = .ok (.getstatic 23, 3) := by decide +kernel
theorem d10_39 : decode prog_20_method_2_code 39 = .ok (.areturn, 1) := by decide +kernel
abbrev lt27 (a0 : Int32) (a1 : Int32) (a2 : Int32) (a3 : Int32) (a4 : Int32) (a5 : Int32) (a6 : Addr) (a7 : Int32) (a8 : Int32) (a9 : Int32) (a10 : Int32) (a11 : Addr) (a12 : Value) : Array Slot := #[.val (.int a0), .val (.int a1), .val (.int a2), .val (.int a3), .val (.int a4), .val (.int a5), .val (.ref a6), .val (.int a7), .val (.int a8), .val (.int a9), .val (.int a10), .val (.ref a11), .val a12, .unset, .unset, .unset]
theorem d12_0 : decode method_3_code 0 = .ok (.iload_n 1, 1) := by decide +kernel
theorem d12_1 : decode method_3_code 1 = .ok (.iconst 4, 1) := by decide +kernel
theorem d12_2 : decode method_3_code 2 = .ok (.if_icmp .ge 15, 3) := by decide +kernel
theorem d12_5 : decode method_3_code 5 = .ok (.iload_n 0, 1) := by decide +kernel
theorem d12_6 : decode method_3_code 6 = .ok (.iload_n 1, 1) := by decide +kernel
theorem d12_7 : decode method_3_code 7 = .ok (.iushr, 1) := by decide +kernel
theorem d12_8 : decode method_3_code 8 = .ok (.iconst 1, 1) := by decide +kernel
theorem d12_9 : decode method_3_code 9 = .ok (.iand, 1) := by decide +kernel
theorem d12_10 : decode method_3_code 10 = .ok (.ifCond .eq 7, 3) := by decide +kernel
theorem d12_17 : decode method_3_code 17 = .ok (.iconst 0, 1) := by decide +kernel
theorem d12_18 : decode method_3_code 18 = .ok (.ireturn, 1) := by decide +kernel
theorem d12_13 : decode method_3_code 13 = .ok (.iconst 1, 1) := by decide +kernel
theorem d12_14 : decode method_3_code 14 = .ok (.goto 4, 3) := by decide +kernel
abbrev Y40 : MethodName := (⟨"com/example/vetd/vetd/LinesAnswerPinLaw", "has", "(II)Z"⟩ : MethodName)
theorem pd_7 : parseMethodDescriptor "(II)Z" = some ⟨[.int, .int], some .boolean⟩ := by decide +kernel
abbrev lt28 (a0 : Int32) (a1 : Int32) (a2 : Int32) (a3 : Int32) (a4 : Int32) (a5 : Int32) (a6 : Addr) (a7 : Int32) (a8 : Int32) (a9 : Int32) (a10 : Int32) (a11 : Addr) (a12 : Value) (a13 : Int32) : Array Slot := #[.val (.int a0), .val (.int a1), .val (.int a2), .val (.int a3), .val (.int a4), .val (.int a5), .val (.ref a6), .val (.int a7), .val (.int a8), .val (.int a9), .val (.int a10), .val (.ref a11), .val a12, .val (.int a13), .unset, .unset]
abbrev lt29 (a0 : Int32) (a1 : Int32) (a2 : Int32) (a3 : Int32) (a4 : Int32) (a5 : Int32) (a6 : Addr) (a7 : Int32) (a8 : Int32) (a9 : Int32) (a10 : Int32) (a11 : Addr) (a12 : Value) (a13 : Int32) (a14 : Int32) : Array Slot := #[.val (.int a0), .val (.int a1), .val (.int a2), .val (.int a3), .val (.int a4), .val (.int a5), .val (.ref a6), .val (.int a7), .val (.int a8), .val (.int a9), .val (.int a10), .val (.ref a11), .val a12, .val (.int a13), .val (.int a14), .unset]
abbrev lt30 (a0 : Int32) (a1 : Int32) (a2 : Int32) (a3 : Int32) (a4 : Int32) (a5 : Int32) (a6 : Addr) (a7 : Int32) (a8 : Int32) (a9 : Int32) (a10 : Int32) (a11 : Addr) (a12 : Value) (a13 : Int32) (a14 : Int32) : Array Slot := #[.val (.int a0), .val (.int a1), .val (.int a2), .val (.int a3), .val (.int a4), .val (.int a5), .val (.ref a6), .val (.int a7), .val (.int a8), .val (.int a9), .val (.int a10), .val (.ref a11), .val a12, .val (.int a13), .val (.int a14), .val .null]
abbrev lt31 (a0 : Int32) (a1 : Int32) (a2 : Int32) (a3 : Int32) (a4 : Int32) (a5 : Int32) (a6 : Addr) (a7 : Int32) (a8 : Int32) (a9 : Int32) (a10 : Int32) (a11 : Addr) (a12 : Value) (a13 : Int32) (a14 : Int32) (a15 : Addr) : Array Slot := #[.val (.int a0), .val (.int a1), .val (.int a2), .val (.int a3), .val (.int a4), .val (.int a5), .val (.ref a6), .val (.int a7), .val (.int a8), .val (.int a9), .val (.int a10), .val (.ref a11), .val a12, .val (.int a13), .val (.int a14), .val (.ref a15)]

def upF (F : Nat → Int64) (i : Nat) (v : Int64) : Nat → Int64 := fun q => if q = i then v else F q
def ovF (F : Nat → Int64) (n : Nat) (G : Nat → Int64) : Nat → Int64 := fun q => if q < n then F q else G q
/-! an array of longs that holds what a function says (own) -/
def Arj (Z : State) (h : Heap) (a : Addr) (k : ClassId) (n : Int32) (F : Nat → Int64) : Prop := ∃ c : Cell, Arr Z h a c .long ∧ c.cls = k ∧ c.slots.size = n.toNatClampNeg ∧ ¬ n < 0 ∧ (∀ i, i < c.slots.size → c.slots[i]? = some (.long (F i))) ∧ ∀ i, i < c.slots.size → fits .long (.long (F i)) = true
section Arj
variable {Z : State} {h h' : Heap} {a b : Addr} {k k' : ClassId} {z z' j : Int32} {f f' : Nat → Int64} {sl : Nat} {v : Value} {ws : List Addr}
theorem Arj.lt (F : Arj Z h a k z f) : a < h.size := by obtain ⟨c, A, -⟩ := F; exact A.lt
theorem Arj.ext (F : Arj Z h a k z f) (E : Ext h h') : Arj Z h' a k z f := by obtain ⟨c, A, r⟩ := F; exact ⟨c, A.ext E, r⟩
theorem Arj.other (F : Arj Z h b k z f) (W : Wr h h' a sl v) (q : b ≠ a) : Arj Z h' b k z f := by obtain ⟨c, A, r⟩ := F; exact ⟨c, A.other W q, r⟩
theorem Arj.keep (F : Arj Z h a k z f) (K : Keep h h' ws) (q : a ∉ ws) : Arj Z h' a k z f := by obtain ⟨c, A, r⟩ := F; exact ⟨c, ⟨K.2.1 a c A.1 q, A.2⟩, r⟩
theorem Arj.new (A : Arr Z h a (newA k .long z) .long) (q : ¬ z < 0) : Arj Z h a k z (fun _ => (0 : Int64)) := by
  obtain ⟨c, A, r1, r2, r3, H, -⟩ := Arv.new A q
  exact ⟨c, A, r1, r2, r3, fun i hi => H i hi, fun i hi => rfl⟩
theorem Arj.push {c : Cell} {w : Int64} (A : Arr Z h a c .long) (q1 : c.cls = k) (S : c.slots.size = z.toNatClampNeg) (q3 : ¬ z < 0) (H : ∀ i, i < c.slots.size → c.slots[i]? = some (.long (f i)))
    (W : Wr h h' a j.toNatClampNeg (.long w)) (hj : ¬ (j < 0 ∨ c.slots.size ≤ j.toNatClampNeg)) : Arj Z h' a k z (upF f j.toNatClampNeg w) := by
  refine ⟨_, A.same W, q1, by rw [sz_set]; exact S, q3, fun x hx => ?_, fun x _ => rfl⟩
  rw [sz_set] at hx
  simp only [upF]
  split
  · rename_i e; subst e; simp [Cell.setSlot, hx]
  · rename_i e
    simp only [Cell.setSlot]; rw [Array.getElem?_setIfInBounds_ne (Ne.symm e)]; exact H x hx
theorem own_getM (f : Nat → Int64) (n i : Nat) (d : Value) (hi : i < n) : ((List.range n).map fun i => Value.long (f i)).getD i d = .long (f i) := by
  simp [List.getD_eq_getElem?_getD, List.getElem?_map, List.getElem?_range hi]
theorem Arj.toV (F : Arj Z h a k z f) : Arv Z h a k .long z ((List.range z.toNatClampNeg).map fun i => .long (f i)) (.long 0) := by
  obtain ⟨c, A, r1, r2, r3, H, G⟩ := F
  exact ⟨c, A, r1, r2, r3, fun i hi => by rw [own_getM f _ i _ (r2 ▸ hi)]; exact H i hi, fun i hi => by rw [own_getM f _ i _ (r2 ▸ hi)]; rfl⟩
end Arj
theorem own_cpJ {p : Program} {l : Launch} {e : Env} {R : Room} {s : State} {m : MethodId} {args : Array Value} {below : List Frame} {meth : Method} {c : Code} {T : State} {locs : List Loc} {cells slots : Nat} {Z : State} {h : Heap} {a b : Addr}
    (X : Stand p l e R s m args below meth c T locs cells slots) (hx : p.tables.exec = Jvm.exec) (hZ : Z.Warmed39 s.vm) {a0 : Array Value} {own : String} {index : Nat} (hown : s.vm.findClass own = some m.cls)
    (w1 : (Cond.methodLink own index Jvm.Stand.acN).before a0 Z = true) (w2 : (Cond.native Jvm.Stand.acN).before a0 Z = true) (w3 : (Cond.static Jvm.Stand.acN).before a0 Z = true) (w4 : (Cond.initialized "java/lang/System").before a0 Z = true) (eT : T.heap = h)
    {k k' : ClassId} {z z' : Int32} {F G : Nat → Int64} (A : Arj Z h a k z F) (B : Arj Z h b k' z' G) (hle : ¬ z' < z) {n0 : Nat} (N : Fr n0 locs) (ge : n0 ≤ b)
    {g : JFrame} (hg : g.method = m) (hsize : g.locals.size = c.maxLocals) {rest : List Value} (hs : g.stack = .int z :: .int (0 : Int32) :: .ref b :: .int (0 : Int32) :: .ref a :: rest) (hd : decode c.code g.pc = .ok (.invokestatic index, 3))
    (hf : 1 ≤ R.frames) {W : Nat} (hW : 2 * g.monitorRoom + (rest.map fun v => v.category).sum ≤ W) (hlo : W + (nativeFrameWords "java/lang/System" "arraycopy" 5 + 11) ≤ R.locals) :
    ∃ T' h' L, Stand p l e R s m args below meth c T' L cells slots ∧ T'.heap = h' ∧ Fr n0 L ∧ Keep h h' [b] ∧ Arj Z h' b k' z' (ovF F z.toNatClampNeg G) ∧
      ∀ target, Steps p.tables e below (T'.setTop { g with pc := g.pc + 3, stack := rest }) target → Steps p.tables e below (T.setTop g) target := by
  have nz : ¬ z < 0 := by obtain ⟨_, -, -, -, q, -⟩ := A; exact q
  have zz : z.toNatClampNeg ≤ z'.toNatClampNeg := by rw [Int32.lt_iff_toInt_lt] at hle; simp only [Int32.toNatClampNeg]; omega
  have e0 : (0 : Int32).toNatClampNeg = 0 := rfl
  obtain ⟨T', h', L, X', e', N', K', V', st⟩ := cpA X hx hZ hown w1 w2 w3 w4 eT A.toV B.toV (us := (List.range z.toNatClampNeg).map fun i => .long (F i)) (Or.inl ⟨rfl, rfl⟩) (sp := 0) (dp := 0) (nn := z) (by decide) (by decide) nz (by rw [e0]; omega) (by rw [e0]; omega)
    (by refine List.map_congr_left fun i hi => ?_; rw [e0, Nat.zero_add, own_getM F _ i _ (List.mem_range.mp hi)]) (by rw [e0]; simpa using zz) N ge hg hsize hs hd hf hW hlo
  refine ⟨T', h', L, X', e', N', K', ?_, st⟩
  obtain ⟨c', Ar, r1, r2, r3, H, -⟩ := V'
  refine ⟨c', Ar, r1, r2, r3, fun i hi => ?_, fun i hi => rfl⟩
  rw [H i hi, e0, Nat.zero_add, List.take_zero, List.nil_append]
  have hi' : i < z'.toNatClampNeg := r2 ▸ hi
  simp only [ovF, List.getD_eq_getElem?_getD]
  split
  · rename_i q; rw [List.getElem?_append_left (by simpa using q)]; simp [List.getElem?_range q]
  · rename_i q
    rw [List.getElem?_append_right (by simpa using Nat.le_of_not_lt q), List.length_map, List.length_range, List.getElem?_drop, List.getElem?_map, Nat.add_sub_cancel' (Nat.le_of_not_lt q), List.getElem?_range hi']
    rfl
theorem own_bm (v : Int) (h : -2147483648 ≤ v ∧ v < 2147483648) : Int.bmod v (2 ^ 32) = v := by
  simp only [Int.bmod]; split <;> omega
theorem own_B (x : Int32) : 0 ≤ ((x &&& (255 : Int32)) * (61 : Int32)).toInt ∧ ((x &&& (255 : Int32)) * (61 : Int32)).toInt ≤ 15555 := by
  have h := c_and x 255 (by decide)
  have e : (255 : Int32).toInt = 255 := rfl
  have f : (61 : Int32).toInt = 61 := rfl
  rw [Int32.toInt_mul, f, own_bm _ (by omega)]
  omega
theorem own_add (a b : Int32) (v w : Int) (ha : a.toInt = v) (hb : b.toInt = w) (h : -2147483648 ≤ v + w ∧ v + w < 2147483648) : (a + b).toInt = v + w := by
  rw [Int32.toInt_add, ha, hb, Int.bmod]
  split <;> omega
theorem own_Bk {B : Int32} (hB : 0 ≤ B.toInt ∧ B.toInt ≤ 15555) (k : Int32) (n : Int) (h : k.toInt = n) (hn : 0 ≤ n ∧ n ≤ 7) : (B + k).toInt = B.toInt + n := own_add B k _ _ rfl h (by omega)
theorem own_wi (x : Int32) : (x >>> ((6 : Int32) &&& 31)).toInt = x.toInt / 64 := c_ishr x 6 6 rfl
theorem own_inc {x : Int32} {v : Int} (h : x.toInt = v) (hv : 0 ≤ v ∧ v < 2147483647) : (x + (1 : Int32)).toInt = v + 1 := own_add x 1 _ _ h rfl (by omega)
theorem own_dbl (n : Int32) (h1 : 0 ≤ n.toInt) (h2 : n.toInt ≤ 488) : ((2 : Int32) * n).toInt = 2 * n.toInt := by
  have f : (2 : Int32).toInt = 2 := rfl
  rw [Int32.toInt_mul, f, Int.bmod]
  split <;> omega
theorem own_nat {x : Int32} {c : Nat} (h0 : 0 ≤ x.toInt) (h : x.toInt ≤ c) : x.toNatClampNeg ≤ c := by
  simp only [Int32.toNatClampNeg]; omega
theorem own_ltn {j n u : Int32} (h : j < u) (g : ¬ n < u) : j < n := by
  rw [Int32.lt_iff_toInt_lt] at *; omega
theorem own_lt' {a b : Int32} (h : a.toInt < b.toInt) : a < b := Int32.lt_iff_toInt_lt.mpr h
theorem own_nl' {a b : Int32} (h : ¬ a.toInt < b.toInt) : ¬ a < b := fun z => h (Int32.lt_iff_toInt_lt.mp z)
theorem own_ne' {a b : Int32} (h : ¬ a.toInt = b.toInt) : ¬ a = b := fun z => h (congrArg Int32.toInt z)
theorem own_ilt {a b : Int32} (h : a < b) : a.toInt < b.toInt := Int32.lt_iff_toInt_lt.mp h
theorem own_inl {a b : Int32} (h : ¬ a < b) : ¬ a.toInt < b.toInt := fun z => h (Int32.lt_iff_toInt_lt.mpr z)
theorem own_ine {a b : Int32} (h : ¬ a = b) : ¬ a.toInt = b.toInt := fun z => h (Int32.toInt_inj.mp z)
def StB (b : Int) (n : Int32) (sl : Nat) : Prop := (n.toInt = 1 ∧ sl = 0) ∨ (n.toInt = b / 64 + 1 ∧ 2 ≤ n.toInt ∧ sl ≤ 244) ∨ ((b + 3) / 64 + 1 ≤ n.toInt ∧ sl ≤ 732)
/-- what the words hold: nothing behind those in use; of the eight bits from the base on just those of the mask's first k -/
def InvC (B mask : Int32) (k : Nat) (u : Int32) (F : Nat → Int64) : Prop := (∀ q : Nat, u.toInt ≤ (q : Int) → F q = 0) ∧ ∀ o : Nat, o < 8 → (F ((B.toInt.toNat + o) / 64)).toBitVec.getLsbD ((B.toInt.toNat + o) % 64) = (decide (o < k) && mask.toBitVec.getLsbD o)
theorem own_inv0 (B mask u : Int32) : InvC B mask 0 u (fun _ => (0 : Int64)) := ⟨fun _ _ => rfl, fun o _ => by simp⟩
theorem own_bit0 {mask m : Int32} {k : Nat} (hm : m.toBitVec = 1#32 <<< k) (hk : k < 8) : mask &&& m = 0 ↔ mask.toBitVec.getLsbD k = false := by
  constructor
  · intro h
    have h : mask.toBitVec &&& m.toBitVec = 0#32 := by rw [← Int32.toBitVec_and, h]; rfl
    have := congrArg (fun z : BitVec 32 => z.getLsbD k) h
    simp [hm] at this
    by_cases q : mask.toBitVec.getLsbD k = true
    · have := this q; omega
    · simpa using q
  · intro h
    apply Int32.toBitVec_inj.mp
    rw [Int32.toBitVec_and, hm]
    apply BitVec.eq_of_getLsbD_eq
    intro i hi
    by_cases e : i = k
    · subst e; simp [h]
    · have : (1#32 <<< k).getLsbD i = false := by
        simp only [BitVec.getLsbD_shiftLeft, BitVec.getLsbD_one]
        simp; omega
      simp [this]
theorem own_skip {B mask u : Int32} {k : Nat} {F : Nat → Int64} (I : InvC B mask k u F) {m : Int32} (hm : m.toBitVec = 1#32 <<< k) (hk : k < 8) (hb : mask &&& m = 0) : InvC B mask (k + 1) u F :=
  ⟨I.1, fun o ho => by
    rw [I.2 o ho]
    have := (own_bit0 hm hk).mp hb
    by_cases e : o = k
    · subst e; simp [this]
    · have : (decide (o < k)) = decide (o < k + 1) := by simp; omega
      rw [this]⟩
theorem own_shl (i : Int32) (h : 0 ≤ i.toInt) : ((1 : Int64) <<< (i &&& 0x3f).toInt64).toBitVec = 1#64 <<< (i.toInt.toNat % 64) := by
  have key : ∀ r : Fin 64, ((1 : Int64) <<< (Int32.ofNat r.val).toInt64).toBitVec = 1#64 <<< r.val := by decide
  have e : i &&& 0x3f = Int32.ofNat (i.toInt.toNat % 64) := by
    apply Int32.toBitVec_inj.mp
    apply BitVec.eq_of_toNat_eq
    have h1 : i.toInt = (i.toBitVec.toNat : Int) := by
      have := BitVec.toInt_eq_toNat_cond i.toBitVec
      have e2 : i.toBitVec.toInt = i.toInt := rfl
      rw [e2] at this
      split at this <;> omega
    rw [Int32.toBitVec_and, BitVec.toNat_and]
    show _ &&& (2 ^ 6 - 1) = (i.toInt.toNat % 64) % 4294967296
    rw [Nat.and_two_pow_sub_one_eq_mod, h1]
    omega
  rw [e]
  exact key ⟨i.toInt.toNat % 64, by omega⟩
theorem own_jn {B j : Int32} {k : Nat} (hB : 0 ≤ B.toInt) (hj : j.toInt = (B.toInt + k) / 64) : j.toNatClampNeg = (B.toInt.toNat + k) / 64 := by
  simp only [Int32.toNatClampNeg]; omega
theorem own_set {B mask u : Int32} {k : Nat} {F : Nat → Int64} (I : InvC B mask k u F) {m : Int32} (hm : m.toBitVec = 1#32 <<< k) (hk : k < 8) (hb : ¬ mask &&& m = 0) (hB : 0 ≤ B.toInt ∧ B.toInt ≤ 15555)
    {i : Int32} (hi : i.toInt = B.toInt + k) {j : Int32} (hj : j.toInt = (B.toInt + k) / 64) {u' : Int32} (h1 : u.toInt ≤ u'.toInt) (h2 : j.toInt + 1 ≤ u'.toInt) :
    InvC B mask (k + 1) u' (upF F j.toNatClampNeg (F j.toNatClampNeg ||| ((1 : Int64) <<< (i &&& 0x3f).toInt64))) := by
  have en := own_jn hB.1 hj
  have hbit : mask.toBitVec.getLsbD k = true := by
    by_cases q : mask.toBitVec.getLsbD k = true
    · exact q
    · exact absurd ((own_bit0 hm hk).mpr (by simpa using q)) hb
  refine ⟨fun q hq => ?_, fun o ho => ?_⟩
  · have : q ≠ j.toNatClampNeg := by rw [en]; omega
    simp only [upF, if_neg this]
    exact I.1 q (by omega)
  · have hI := I.2 o ho
    have es := own_shl i (by omega)
    have ei : i.toInt.toNat % 64 = (B.toInt.toNat + k) % 64 := by rw [hi]; omega
    by_cases e : (B.toInt.toNat + o) / 64 = j.toNatClampNeg
    · simp only [upF, e, if_true]
      rw [e] at hI
      rw [Int64.toBitVec_or, BitVec.getLsbD_or, hI, es, ei]
      by_cases eo : o = k
      · subst eo
        have : (1#64 <<< ((B.toInt.toNat + o) % 64)).getLsbD ((B.toInt.toNat + o) % 64) = true := by
          simp; omega
        rw [this, hbit]; simp
      · have : (1#64 <<< ((B.toInt.toNat + k) % 64)).getLsbD ((B.toInt.toNat + o) % 64) = false := by
          simp only [BitVec.getLsbD_shiftLeft, BitVec.getLsbD_one]
          rw [en] at e
          simp; omega
        rw [this, Bool.or_false]
        have : (decide (o < k)) = decide (o < k + 1) := by simp; omega
        rw [this]
    · simp only [upF, if_neg e]
      rw [hI]
      have : o ≠ k := fun z => e (by rw [z, en])
      have : (decide (o < k)) = decide (o < k + 1) := by simp; omega
      rw [this]
theorem own_ov {B mask u n : Int32} {k : Nat} {F : Nat → Int64} (I : InvC B mask k u F) (h : u.toInt ≤ n.toInt) : ovF F n.toNatClampNeg (fun _ => (0 : Int64)) = F := by
  funext q
  simp only [ovF]
  split
  · rfl
  · rename_i g
    refine (I.1 q ?_).symm
    simp only [Int32.toNatClampNeg] at g; omega
theorem own_setG {B mask u n : Int32} {k : Nat} {F : Nat → Int64} (I : InvC B mask k u F) {m : Int32} (hm : m.toBitVec = 1#32 <<< k) (hk : k < 8) (hb : ¬ mask &&& m = 0) (hB : 0 ≤ B.toInt ∧ B.toInt ≤ 15555)
    {i : Int32} (hi : i.toInt = B.toInt + k) {j : Int32} (hj : j.toInt = (B.toInt + k) / 64) {u' : Int32} (h1 : u.toInt ≤ u'.toInt) (h2 : j.toInt + 1 ≤ u'.toInt) (h3 : u.toInt ≤ n.toInt) :
    InvC B mask (k + 1) u' (upF (ovF F n.toNatClampNeg (fun _ => (0 : Int64))) j.toNatClampNeg ((ovF F n.toNatClampNeg (fun _ => (0 : Int64))) j.toNatClampNeg ||| ((1 : Int64) <<< (i &&& 0x3f).toInt64))) := by
  rw [own_ov I h3]; exact own_set I hm hk hb hB hi hj h1 h2
theorem own_cnn {B o : Int32} (hB : 0 ≤ B.toInt ∧ B.toInt ≤ 15555) (r : 0 ≤ o.toInt ∧ o.toInt < 8) : ¬ (B + o) < (0 : Int32) := by
  have := own_Bk hB o _ rfl (by omega)
  have e : (0 : Int32).toInt = 0 := rfl
  rw [Int32.lt_iff_toInt_lt, this, e]; omega
theorem own_cwn {B o : Int32} (hB : 0 ≤ B.toInt ∧ B.toInt ≤ 15555) (r : 0 ≤ o.toInt ∧ o.toInt < 8) : ¬ ((B + o) >>> ((6 : Int32) &&& 31)) < (0 : Int32) := by
  have := own_Bk hB o _ rfl (by omega)
  have e : (0 : Int32).toInt = 0 := rfl
  rw [Int32.lt_iff_toInt_lt, own_wi, this, e]; omega
def StF (Z : State) (w_1 : Addr) (w_2 : Addr) : Prop :=
  Sta Z Z.heap "com/example/vetd/vetd/Decision" "DENY" "Lcom/example/vetd/vetd/Decision;" (.ref w_1) ∧
  Exa Z Z.heap w_1 "com/example/vetd/vetd/Decision" ∧
  Sta Z Z.heap "com/example/vetd/vetd/Decision" "PERMIT" "Lcom/example/vetd/vetd/Decision;" (.ref w_2) ∧
  Exa Z Z.heap w_2 "com/example/vetd/vetd/Decision" ∧
  Sta Z Z.heap "java/util/BitSet" "$assertionsDisabled" "Z" (.int (1 : Int32))
theorem pn_5 : plainName "java/util/BitSet" = true := by first | (simp [plainName, overriddenIn]; done) | decide +kernel
theorem ef_5 (m : MethodId) (p0 : Int32) : entryFrame m #[(.int p0)] 1 = mkF m 0 #[.val (.int p0)] [] := by first | (simp [entryFrame, mkF, argsToLocals, Value.category]; done) | rfl
def sp5 (p0 : Int32) : Int32 := (p0 >>> ((6 : Int32) &&& 31))
def Q5 (Z : State) (w_1 : Addr) (w_2 : Addr) (p0 : Int32) (h0 : Heap) (n0 : Nat) (v : Option Value) (h : Heap) (L : List Loc) : Prop := v = some (.int (sp5 p0)) ∧ Fr n0 L ∧ h = h0
set_option maxRecDepth 65536 in
set_option maxHeartbeats 40000000 in
theorem rm5 (l : Launch) (Z : State) (a0 : Array Value) (hw : ∀ d ∈ tables_1, d.before a0 Z = true) (hv : ∀ d ∈ jdkStatics_1, d.before a0 Z = true) (ws : List Jvm.Cond) (w_1 : Addr) (w_2 : Addr) (hS : StF Z w_1 w_2) (p0 : Int32) (h0 : Heap) (n0 : Nat) (O0 : Old Z n0 h0) :
    MetFree l Y5 (head1 (Jvm.Cond.code Y5 jdk_92_method_1_code 1 (some .int) :: ws) ({ frames := 0, cells := 0, slots := 0, locals := 0 } : Room)) (fun a U => a = #[(.int p0)] ∧ Z.Warmed39 U.vm ∧ U.heap = h0) (fun _ _ _ _ _ => True) (fun _ U o U' => ∃ v L, o = .returned v ∧ Q5 Z w_1 w_2 p0 h0 n0 v U'.heap L ∧ FrameEnd U o U' L ({ frames := 0, cells := 0, slots := 0, locals := 0 } : Room).cells ({ frames := 0, cells := 0, slots := 0, locals := 0 } : Room).slots) := by
  refine MetFree.of_bodySF (plainFor_of_name pn_5) hisR ?_
  intro p e s m args below meth c s₁ Bd hml0 hP hK
  obtain ⟨rfl, hZ, hh⟩ := hP
  have hx := Bd.exec
  have hby := Bd.bytes
  have hml : c.maxLocals = 1 := hml0
  have hown : s.vm.findClass "java/util/BitSet" = some m.cls := findClass_of_methodNamed Bd.named
  have hnm := (name_of_methodNamed Bd.named Bd.method).1
  have X0 : Stand p l e ({ frames := 0, cells := 0, slots := 0, locals := 0 } : Room) s m #[(.int p0)] below meth c s₁ [] 0 0 := Stand.of_body Bd
  have e0 : s₁.heap = h0 := by rw [← hh, Bd.state]; rfl
  have N0 := Fr.nil n0
  have hS0 := hS
  obtain ⟨S_1, E_1, S_2, E_2, S_3⟩ := hS
  have pre0 : ∀ t, Steps p.tables e below (s₁.setTop (mkF m 0 #[.val (.int p0)] [])) t → Steps p.tables e below (s₁.setTop (entryFrame m #[(.int p0)] 1)) t := fun t k => castTop (ef_5 m p0) k
  generalize hE0 : s₁.setTop (entryFrame m #[(.int p0)] 1) = E0 at pre0 ⊢
  obtain ⟨fs, hr, hrun, hended, hW, hsame⟩ := X0.leave (v := some (.int (p0 >>> ((6 : Int32) &&& 31)))) (fun h => by rw [Bd.returns] at h; cases h)
  refine ⟨_, _, pre0 _ ?_, hrun, hended, _, _, rfl, ?_, ⟨_, rfl⟩, hW, hsame.mono (by decide) (by decide)⟩
  · show Sp p e below s₁ (mkF m 0 (lt5 p0) []) _
    refine XS.iloadN X0.here hx rfl (hb hby d5_0) rfl ?_
    refine XS.bipush X0.here hx rfl (hb hby d5_1) ?_
    show Sp p e below s₁ (mkF m 3 (lt5 p0) [(.int (6 : Int32)), (.int p0)]) _
    refine XS.ishr X0.here hx rfl (hb hby d5_3) rfl ?_
    show Sp p e below s₁ (mkF m 4 (lt5 p0) [(.int (p0 >>> ((6 : Int32) &&& 31)))]) _
    exact retI X0 hx Bd.returns (hb hby d5_4) hr
  · show Q5 Z w_1 w_2 p0 h0 n0 _ s₁.heap _
    rw [e0]
    exact ⟨by unfold sp5; rfl, N0, rfl⟩
theorem pn_4x1 : plainName "java/util/BitSet" = true := by first | (simp [plainName, overriddenIn]; done) | decide +kernel
theorem ef_4x1 (m : MethodId) (r0 : Addr) : entryFrame m #[(.ref r0), (.int (64 : Int32))] 2 = mkF m 0 #[.val (.ref r0), .val (.int (64 : Int32))] [] := by first | (simp [entryFrame, mkF, argsToLocals, Value.category]; done) | rfl
def Q4x1 (Z : State) (w_1 : Addr) (w_2 : Addr) (r0 : Addr) (h0 : Heap) (n0 : Nat) (v : Option Value) (h : Heap) (L : List Loc) : Prop := ∃ (b14 : Addr) (k14 : ClassId), v = none ∧ Fr n0 L ∧ Old Z n0 h ∧ Keep h0 h [r0] ∧ Fld Z h r0 "java/util/BitSet" "sizeIsSticky" "Z" (.int (0 : Int32)) ∧ Fld Z h r0 "java/util/BitSet" "words" "[J" (.ref b14) ∧ Fld Z h r0 "java/util/BitSet" "wordsInUse" "I" (.int (0 : Int32)) ∧ n0 ≤ b14 ∧ h0.size ≤ b14 ∧ Arj Z h b14 k14 ((((64 : Int32) - (1 : Int32)) >>> ((6 : Int32) &&& 31)) + (1 : Int32)) (fun _ => (0 : Int64))
set_option maxRecDepth 65536 in
set_option maxHeartbeats 40000000 in
theorem rm4x1 (l : Launch) (Z : State) (a0 : Array Value) (hw : ∀ d ∈ tables_1, d.before a0 Z = true) (hv : ∀ d ∈ jdkStatics_1, d.before a0 Z = true) (ws : List Jvm.Cond) (w_1 : Addr) (w_2 : Addr) (hS : StF Z w_1 w_2) (r0 : Addr) (h0 : Heap) (n0 : Nat) (O0 : Old Z n0 h0) (g_r0 : n0 ≤ r0) (E_r0 : Exa Z h0 r0 "java/util/BitSet") (F_sizeIsSticky_r0 : Fld Z h0 r0 "java/util/BitSet" "sizeIsSticky" "Z" (.int (0 : Int32))) (F_words_r0 : Fld Z h0 r0 "java/util/BitSet" "words" "[J" .null) (F_wordsInUse_r0 : Fld Z h0 r0 "java/util/BitSet" "wordsInUse" "I" (.int (0 : Int32))) :
    MetFree l Y6 (head1 (Jvm.Cond.code Y6 jdk_92_method_6_code 2 none :: ws) ({ frames := 1, cells := 1, slots := 1, locals := 13 } : Room)) (fun a U => a = #[(.ref r0), (.int (64 : Int32))] ∧ Z.Warmed39 U.vm ∧ U.heap = h0) (fun _ _ _ _ _ => True) (fun _ U o U' => ∃ v L, o = .returned v ∧ Q4x1 Z w_1 w_2 r0 h0 n0 v U'.heap L ∧ FrameEnd U o U' L ({ frames := 1, cells := 1, slots := 1, locals := 13 } : Room).cells ({ frames := 1, cells := 1, slots := 1, locals := 13 } : Room).slots) := by
  refine MetFree.of_bodySF (plainFor_of_name pn_4x1) hisR ?_
  intro p e s m args below meth c s₁ Bd hml0 hP hK
  obtain ⟨rfl, hZ, hh⟩ := hP
  have hx := Bd.exec
  have hby := Bd.bytes
  have hml : c.maxLocals = 2 := hml0
  have hown : s.vm.findClass "java/util/BitSet" = some m.cls := findClass_of_methodNamed Bd.named
  have hnm := (name_of_methodNamed Bd.named Bd.method).1
  have X0 : Stand p l e ({ frames := 1, cells := 1, slots := 1, locals := 13 } : Room) s m #[(.ref r0), (.int (64 : Int32))] below meth c s₁ [] 0 0 := Stand.of_body Bd
  have e0 : s₁.heap = h0 := by rw [← hh, Bd.state]; rfl
  have N0 := Fr.nil n0
  have hS0 := hS
  obtain ⟨S_1, E_1, S_2, E_2, S_3⟩ := hS
  have pre0 : ∀ t, Steps p.tables e below (s₁.setTop (mkF m 0 #[.val (.ref r0), .val (.int (64 : Int32))] [])) t → Steps p.tables e below (s₁.setTop (entryFrame m #[(.ref r0), (.int (64 : Int32))] 2)) t := fun t k => castTop (ef_4x1 m r0) k
  generalize hE0 : s₁.setTop (entryFrame m #[(.ref r0), (.int (64 : Int32))] 2) = E0 at pre0 ⊢
  obtain ⟨_, _, ⟨T13, L13, k13, n13⟩, -, X13, ⟨Lc13, hQ13, l13, y13, z13⟩, st13⟩ := Jvm.LawKit.callS X0 hx (y := Y5) hown (mvT hZ (hw _ (tk 25 rfl))) (mvT hZ (hw _ (tk 26 rfl))) (mvT hZ (hw _ (tk 11 rfl))) (mvT hZ (hw _ (tk 27 rfl))) (by decide) (backOf (W := 1) (rm5 l Z a0 hw hv [] w_1 w_2 hS0 ((64 : Int32) - (1 : Int32)) h0 n0 O0) hZ (hw _ (tk 27 rfl)) (hw _ (tk 11 rfl)) (by decide) (by decide)) (g := (mkF m 4 (lt4 r0 (64 : Int32)) [(.int ((64 : Int32) - (1 : Int32))), (.ref r0)])) rfl (by rw [hml]; rfl) (argsL := [(.int ((64 : Int32) - (1 : Int32)))]) (rest := [(.ref r0)]) (lenOf pd_0 rfl) rfl (by show 2 * 0 + _ ≤ _; exact Nat.le_of_eq rfl) (hb hby d4_4) (fun _ _ => ⟨rfl, e0, (by decide : 0 + 0 ≤ _), (by decide : 0 + 0 ≤ _)⟩)
  dsimp only [Pt.U, Pt.locs, Pt.cells, Pt.slots] at X13 l13 y13 z13 st13 hQ13
  subst l13 y13 z13
  obtain ⟨rv13, N13q, e13⟩ := hQ13
  rw [show sp5 ((64 : Int32) - (1 : Int32)) = (((64 : Int32) - (1 : Int32)) >>> ((6 : Int32) &&& 31)) from by unfold sp5; rfl] at rv13
  subst rv13
  have N13 := Fr.app N0 N13q
  obtain ⟨T14, h14, k14, X14, e14, E14, A14, st14⟩ := newP X13 hx hZ (hw _ (tk 28 rfl)) e13 (g := (mkF m 9 (lt4 r0 (64 : Int32)) [(.int ((((64 : Int32) - (1 : Int32)) >>> ((6 : Int32) &&& 31)) + (1 : Int32))), (.ref r0)])) rfl (hb hby d4_9) rfl (by decide) (cap := 1) (by decide) (by decide) (by decide) (by decide)
  obtain ⟨b14, g14⟩ : ∃ z, z = h0.size := ⟨_, rfl⟩
  rw [← g14] at A14 st14
  have g_b14 : n0 ≤ b14 := Nat.le_trans (own_old O0) (Nat.le_of_eq g14.symm)
  have sz_b14 : h0.size ≤ b14 := Nat.le_trans (Keep.refl h0 [r0]).1 (Nat.le_of_eq g14.symm)
  have ne_r0_b14 : r0 ≠ b14 := Nat.ne_of_lt (Nat.lt_of_lt_of_le E_r0.lt (Nat.le_of_eq g14.symm))
  have O14 : Old Z n0 h14 := O0.ext E14
  have K14 : Keep h0 h14 [r0] := (Keep.refl h0 [r0]).ext E14
  have V_b14 : Arj Z h14 b14 k14 ((((64 : Int32) - (1 : Int32)) >>> ((6 : Int32) &&& 31)) + (1 : Int32)) (fun _ => (0 : Int64)) := Arj.new A14 (by decide)
  have c15 := (E_r0.ext E14)
  have c16 := (F_words_r0.ext E14)
  obtain ⟨T17, h17, X17, e17, W17, st17⟩ := putF X14 hx hZ hown (host := "") (Or.inl (hw _ (tk 29 rfl))) Via.refl e14 c16 c15 (Or.inl (hw _ (tk 30 rfl))) (hw _ (tk 10 rfl)) (ty := (.array .long)) (by decide) rfl rfl (g := (mkF m 11 (lt4 r0 (64 : Int32)) [(.ref b14), (.ref r0)])) rfl rfl (hb hby d4_11)
  have Fw17 := c16.same W17
  have O17 : Old Z n0 h17 := O14.wr W17 g_r0
  have N17 := Fr.snoc X17 N13 g_r0
  have K17 : Keep h0 h17 [r0] := K14.wr W17 (Or.inl (List.mem_of_getElem? (i := 0) rfl))
  obtain ⟨fs, hr, hrun, hended, hW, hsame⟩ := X17.leave (v := none) (fun _ => rfl)
  have c18 := (V_b14.other W17 (Ne.symm ne_r0_b14))
  have c19 := ((F_sizeIsSticky_r0.ext E14).other W17 (Or.inr (slot_ne (Or.inl (hw _ (tk 19 rfl))) (Or.inl (hw _ (tk 30 rfl))) (by decide) (t := .boolean) (t' := (.array .long)) (by decide) (by decide))))
  have c20 := ((F_wordsInUse_r0.ext E14).other W17 (Or.inr (slot_ne (Or.inl (hw _ (tk 17 rfl))) (Or.inl (hw _ (tk 30 rfl))) (by decide) (t := .int) (t' := (.array .long)) (by decide) (by decide))))
  refine ⟨_, _, pre0 _ ?_, hrun, hended, _, _, rfl, ?_, ⟨_, rfl⟩, hW, hsame.mono (by decide) (by decide)⟩
  · show Sp p e below s₁ (mkF m 0 (lt4 r0 (64 : Int32)) []) _
    refine XS.aloadN X0.here hx rfl (hb hby d4_0) rfl rfl ?_
    refine XS.iloadN X0.here hx rfl (hb hby d4_1) rfl ?_
    show Sp p e below s₁ (mkF m 2 (lt4 r0 (64 : Int32)) [(.int (64 : Int32)), (.ref r0)]) _
    refine XS.iconst X0.here hx rfl (hb hby d4_2) ?_
    refine XS.isub X0.here hx rfl (hb hby d4_3) rfl ?_
    show Sp p e below s₁ (mkF m 4 (lt4 r0 (64 : Int32)) [(.int ((64 : Int32) - (1 : Int32))), (.ref r0)]) _
    refine st13 _ ?_
    show Sp p e below T13 (mkF m 7 (lt4 r0 (64 : Int32)) [(.int (((64 : Int32) - (1 : Int32)) >>> ((6 : Int32) &&& 31))), (.ref r0)]) _
    refine XS.iconst X13.here hx rfl (hb hby d4_7) ?_
    refine XS.iadd X13.here hx rfl (hb hby d4_8) rfl ?_
    show Sp p e below T13 (mkF m 9 (lt4 r0 (64 : Int32)) [(.int ((((64 : Int32) - (1 : Int32)) >>> ((6 : Int32) &&& 31)) + (1 : Int32))), (.ref r0)]) _
    refine st14 _ ?_
    show Sp p e below T14 (mkF m 11 (lt4 r0 (64 : Int32)) [(.ref b14), (.ref r0)]) _
    refine st17 _ ?_
    show Sp p e below T17 (mkF m 14 (lt4 r0 (64 : Int32)) []) _
    exact X17.returnOut hx Bd.returns (hb hby d4_14) hr
  · show Q4x1 Z w_1 w_2 r0 h0 n0 _ T17.heap _
    rw [e17]
    exact ⟨b14, k14, rfl, N17, O17, K17, c19, Fw17, c20, g_b14, sz_b14, c18⟩
theorem pn_3x1 : plainName "java/util/BitSet" = true := by first | (simp [plainName, overriddenIn]; done) | decide +kernel
theorem ef_3x1 (m : MethodId) (r0 : Addr) : entryFrame m #[(.ref r0)] 1 = mkF m 0 #[.val (.ref r0)] [] := by first | (simp [entryFrame, mkF, argsToLocals, Value.category]; done) | rfl
def Q3x1 (Z : State) (w_1 : Addr) (w_2 : Addr) (r0 : Addr) (h0 : Heap) (n0 : Nat) (v : Option Value) (h : Heap) (L : List Loc) : Prop := ∃ (b25 : Addr) (k26 : ClassId), v = none ∧ Fr n0 L ∧ Old Z n0 h ∧ Keep h0 h [r0] ∧ Fld Z h r0 "java/util/BitSet" "sizeIsSticky" "Z" (.int (0 : Int32)) ∧ Fld Z h r0 "java/util/BitSet" "words" "[J" (.ref b25) ∧ Fld Z h r0 "java/util/BitSet" "wordsInUse" "I" (.int (0 : Int32)) ∧ n0 ≤ b25 ∧ h0.size ≤ b25 ∧ Arj Z h b25 k26 ((((64 : Int32) - (1 : Int32)) >>> ((6 : Int32) &&& 31)) + (1 : Int32)) (fun _ => (0 : Int64))
set_option maxRecDepth 65536 in
set_option maxHeartbeats 40000000 in
theorem rm3x1 (l : Launch) (Z : State) (a0 : Array Value) (hw : ∀ d ∈ tables_1, d.before a0 Z = true) (hv : ∀ d ∈ jdkStatics_1, d.before a0 Z = true) (ws : List Jvm.Cond) (w_1 : Addr) (w_2 : Addr) (hS : StF Z w_1 w_2) (r0 : Addr) (h0 : Heap) (n0 : Nat) (O0 : Old Z n0 h0) (g_r0 : n0 ≤ r0) (E_r0 : Exa Z h0 r0 "java/util/BitSet") (F_sizeIsSticky_r0 : Fld Z h0 r0 "java/util/BitSet" "sizeIsSticky" "Z" (.int (0 : Int32))) (F_words_r0 : Fld Z h0 r0 "java/util/BitSet" "words" "[J" .null) (F_wordsInUse_r0 : Fld Z h0 r0 "java/util/BitSet" "wordsInUse" "I" (.int (0 : Int32))) :
    MetFree l Y7 (head1 (Jvm.Cond.code Y7 jdk_92_method_4_code 1 none :: ws) ({ frames := 2, cells := 1, slots := 1, locals := 26 } : Room)) (fun a U => a = #[(.ref r0)] ∧ Z.Warmed39 U.vm ∧ U.heap = h0) (fun _ _ _ _ _ => True) (fun _ U o U' => ∃ v L, o = .returned v ∧ Q3x1 Z w_1 w_2 r0 h0 n0 v U'.heap L ∧ FrameEnd U o U' L ({ frames := 2, cells := 1, slots := 1, locals := 26 } : Room).cells ({ frames := 2, cells := 1, slots := 1, locals := 26 } : Room).slots) := by
  refine MetFree.of_bodySF (plainFor_of_name pn_3x1) hisR ?_
  intro p e s m args below meth c s₁ Bd hml0 hP hK
  obtain ⟨rfl, hZ, hh⟩ := hP
  have hx := Bd.exec
  have hby := Bd.bytes
  have hml : c.maxLocals = 1 := hml0
  have hown : s.vm.findClass "java/util/BitSet" = some m.cls := findClass_of_methodNamed Bd.named
  have hnm := (name_of_methodNamed Bd.named Bd.method).1
  have X0 : Stand p l e ({ frames := 2, cells := 1, slots := 1, locals := 26 } : Room) s m #[(.ref r0)] below meth c s₁ [] 0 0 := Stand.of_body Bd
  have e0 : s₁.heap = h0 := by rw [← hh, Bd.state]; rfl
  have N0 := Fr.nil n0
  have hS0 := hS
  obtain ⟨S_1, E_1, S_2, E_2, S_3⟩ := hS
  have pre0 : ∀ t, Steps p.tables e below (s₁.setTop (mkF m 0 #[.val (.ref r0)] [])) t → Steps p.tables e below (s₁.setTop (entryFrame m #[(.ref r0)] 1)) t := fun t k => castTop (ef_3x1 m r0) k
  generalize hE0 : s₁.setTop (entryFrame m #[(.ref r0)] 1) = E0 at pre0 ⊢
  obtain ⟨T8, X8, e8, st8⟩ := initO X0 hx hZ hown (hw _ (tk 15 rfl)) (hw _ (tk 7 rfl)) (hw _ (tk 8 rfl)) e0 (g := (mkF m 1 (lt3 r0) [(.ref r0)])) rfl (by rw [hml]; rfl) rfl (hb hby d3_1) (by decide) (W := 0) (by show 2 * 0 + _ ≤ _; exact Nat.le_of_eq rfl) (by decide)
  obtain ⟨T9, h9, X9, e9, W9, st9⟩ := putF X8 hx hZ hown (host := "") (Or.inl (hw _ (tk 16 rfl))) Via.refl e8 F_wordsInUse_r0 E_r0 (Or.inl (hw _ (tk 17 rfl))) (hw _ (tk 10 rfl)) (ty := .int) (by decide) rfl rfl (g := (mkF m 6 (lt3 r0) [(.int (0 : Int32)), (.ref r0)])) rfl rfl (hb hby d3_6)
  have Fw9 := F_wordsInUse_r0.same W9
  have O9 : Old Z n0 h9 := O0.wr W9 g_r0
  have N9 := Fr.snoc X9 N0 g_r0
  have K9 : Keep h0 h9 [r0] := (Keep.refl h0 [r0]).wr W9 (Or.inl (List.mem_of_getElem? (i := 0) rfl))
  have c10 := (E_r0.wr W9)
  have c11 := (F_sizeIsSticky_r0.other W9 (Or.inr (slot_ne (Or.inl (hw _ (tk 19 rfl))) (Or.inl (hw _ (tk 17 rfl))) (by decide) (t := .boolean) (t' := .int) (by decide) (by decide))))
  obtain ⟨T12, h12, X12, e12, W12, st12⟩ := putFN X9 hx hZ hown (hw _ (tk 18 rfl)) Via.refl e9 c11 c10 (Or.inl (hw _ (tk 19 rfl))) (hw _ (tk 10 rfl)) (ty := .boolean) (v' := (.int (0 : Int32))) (by decide) rfl (by decide) (g := (mkF m 11 (lt3 r0) [(.int (0 : Int32)), (.ref r0)])) rfl rfl (hb hby d3_11)
  have Fw12 := c11.same W12
  have O12 : Old Z n0 h12 := O9.wr W12 g_r0
  have N12 := Fr.snoc X12 N9 g_r0
  have K12 : Keep h0 h12 [r0] := K9.wr W12 (Or.inl (List.mem_of_getElem? (i := 0) rfl))
  have c21 := (c10.wr W12)
  have c22 := ((F_words_r0.other W9 (Or.inr (slot_ne (Or.inl (hw _ (tk 30 rfl))) (Or.inl (hw _ (tk 17 rfl))) (by decide) (t := (.array .long)) (t' := .int) (by decide) (by decide)))).other W12 (Or.inr (slot_ne (Or.inl (hw _ (tk 30 rfl))) (Or.inl (hw _ (tk 19 rfl))) (by decide) (t := (.array .long)) (t' := .boolean) (by decide) (by decide))))
  have c23 := (Fw9.other W12 (Or.inr (slot_ne (Or.inl (hw _ (tk 17 rfl))) (Or.inl (hw _ (tk 19 rfl))) (by decide) (t := .int) (t' := .boolean) (by decide) (by decide))))
  obtain ⟨cq24, q24, q24'⟩ := c21.cell
  obtain ⟨_, _, ⟨T24, L24, k24, n24⟩, -, X24, ⟨Lc24, hQ24, l24, y24, z24⟩, st24⟩ := X12.privateBack hx (y := Y6) hown (mvT hZ (hw _ (tk 20 rfl))) (mvT hZ (hw _ (tk 21 rfl))) (mvT hZ (hw _ (tk 23 rfl))) (Cond.privateMethod_at (mvP hZ (hw _ (tk 22 rfl)) (args := #[]))) (mvT hZ (hw _ (tk 24 rfl))) (by decide) (backOf (W := 0) (rm4x1 l Z a0 hw hv [] w_1 w_2 hS0 r0 h12 n0 O12 g_r0 c21 Fw12 c22 c23) hZ (hw _ (tk 24 rfl)) (hw _ (tk 11 rfl)) (by decide) (by decide)) (g := (mkF m 17 (lt3 r0) [(.int (64 : Int32)), (.ref r0)])) rfl (by rw [hml]; rfl) (Steps.refl _) (a := r0) (by rw [e12]; exact q24) q24' (argsL := [(.int (64 : Int32))]) (rest := []) (lenOf pd_1 rfl) rfl (by show 2 * 0 + _ ≤ _; exact Nat.le_of_eq rfl) (hb hby d3_17) (fun _ _ => ⟨rfl, e12, (by decide : 0 + 1 ≤ _), (by decide : 0 + 1 ≤ _)⟩)
  dsimp only [Pt.U, Pt.locs, Pt.cells, Pt.slots] at X24 l24 y24 z24 st24 hQ24
  subst l24 y24 z24
  obtain ⟨b25, k26, rv24, N24q, O24, K24c, Fe24_0, Fe24_1, Fe24_2, Fx24_0, Fx24_1, Fx24_2⟩ := hQ24
  subst rv24
  have N24 := Fr.app N12 N24q
  have K24 : Keep h0 T24.heap [r0] := K12.trans K24c (allS (Or.inl (List.mem_of_getElem? (i := 0) rfl)) all0)
  have g_b25 := Fx24_0
  have sz_b25 : h0.size ≤ b25 := Nat.le_trans K12.1 Fx24_1
  have ne_r0_b25 : r0 ≠ b25 := Nat.ne_of_lt (Nat.lt_of_lt_of_le c21.lt Fx24_1)
  have c27 := (c21.keep K24c)
  obtain ⟨T28, h28, X28, e28, W28, st28⟩ := putFN X24 hx hZ hown (hw _ (tk 18 rfl)) Via.refl rfl Fe24_0 c27 (Or.inl (hw _ (tk 19 rfl))) (hw _ (tk 10 rfl)) (ty := .boolean) (v' := (.int (0 : Int32))) (by decide) rfl (by decide) (g := (mkF m 22 (lt3 r0) [(.int (0 : Int32)), (.ref r0)])) rfl rfl (hb hby d3_22)
  have Fw28 := Fe24_0.same W28
  have O28 : Old Z n0 h28 := O24.wr W28 g_r0
  have N28 := Fr.snoc X28 N24 g_r0
  have K28 : Keep h0 h28 [r0] := K24.wr W28 (Or.inl (List.mem_of_getElem? (i := 0) rfl))
  obtain ⟨fs, hr, hrun, hended, hW, hsame⟩ := X28.leave (v := none) (fun _ => rfl)
  have c29 := (Fx24_2.other W28 (Ne.symm ne_r0_b25))
  have c30 := (Fe24_1.other W28 (Or.inr (slot_ne (Or.inl (hw _ (tk 30 rfl))) (Or.inl (hw _ (tk 19 rfl))) (by decide) (t := (.array .long)) (t' := .boolean) (by decide) (by decide))))
  have c31 := (Fe24_2.other W28 (Or.inr (slot_ne (Or.inl (hw _ (tk 17 rfl))) (Or.inl (hw _ (tk 19 rfl))) (by decide) (t := .int) (t' := .boolean) (by decide) (by decide))))
  refine ⟨_, _, pre0 _ ?_, hrun, hended, _, _, rfl, ?_, ⟨_, rfl⟩, hW, hsame.mono (by decide) (by decide)⟩
  · show Sp p e below s₁ (mkF m 0 (lt3 r0) []) _
    refine XS.aloadN X0.here hx rfl (hb hby d3_0) rfl rfl ?_
    show Sp p e below s₁ (mkF m 1 (lt3 r0) [(.ref r0)]) _
    refine st8 _ ?_
    show Sp p e below T8 (mkF m 4 (lt3 r0) []) _
    refine XS.aloadN X8.here hx rfl (hb hby d3_4) rfl rfl ?_
    refine XS.iconst X8.here hx rfl (hb hby d3_5) ?_
    show Sp p e below T8 (mkF m 6 (lt3 r0) [(.int (0 : Int32)), (.ref r0)]) _
    refine st9 _ ?_
    show Sp p e below T9 (mkF m 9 (lt3 r0) []) _
    refine XS.aloadN X9.here hx rfl (hb hby d3_9) rfl rfl ?_
    refine XS.iconst X9.here hx rfl (hb hby d3_10) ?_
    show Sp p e below T9 (mkF m 11 (lt3 r0) [(.int (0 : Int32)), (.ref r0)]) _
    refine st12 _ ?_
    show Sp p e below T12 (mkF m 14 (lt3 r0) []) _
    refine XS.aloadN X12.here hx rfl (hb hby d3_14) rfl rfl ?_
    refine XS.bipush X12.here hx rfl (hb hby d3_15) ?_
    show Sp p e below T12 (mkF m 17 (lt3 r0) [(.int (64 : Int32)), (.ref r0)]) _
    refine st24.trans ?_
    show Sp p e below T24 (mkF m 20 (lt3 r0) []) _
    refine XS.aloadN X24.here hx rfl (hb hby d3_20) rfl rfl ?_
    refine XS.iconst X24.here hx rfl (hb hby d3_21) ?_
    show Sp p e below T24 (mkF m 22 (lt3 r0) [(.int (0 : Int32)), (.ref r0)]) _
    refine st28 _ ?_
    show Sp p e below T28 (mkF m 25 (lt3 r0) []) _
    exact X28.returnOut hx Bd.returns (hb hby d3_25) hr
  · show Q3x1 Z w_1 w_2 r0 h0 n0 _ T28.heap _
    rw [e28]
    exact ⟨b25, k26, rfl, N28, O28, K28, Fw28, c30, c31, g_b25, sz_b25, c29⟩
theorem pn_1x1 : plainName "com/example/vetd/vetd/Policy$Lines" = true := by first | (simp [plainName, overriddenIn]; done) | decide +kernel
theorem ef_1x1 (m : MethodId) (r0 : Addr) : entryFrame m #[(.ref r0)] 1 = mkF m 0 #[.val (.ref r0)] [] := by first | (simp [entryFrame, mkF, argsToLocals, Value.category]; done) | rfl
def Q1x1 (Z : State) (w_1 : Addr) (w_2 : Addr) (r0 : Addr) (h0 : Heap) (n0 : Nat) (v : Option Value) (h : Heap) (L : List Loc) : Prop := ∃ (b7 : Addr) (b34 : Addr) (k35 : ClassId) (b42 : Addr) (b47 : Addr) (k48 : ClassId), v = none ∧ Fr n0 L ∧ Old Z n0 h ∧ Keep h0 h [r0] ∧ Fld Z h r0 "com/example/vetd/vetd/Policy$Lines" "denied" "Ljava/util/BitSet;" (.ref b42) ∧ Fld Z h r0 "com/example/vetd/vetd/Policy$Lines" "permitted" "Ljava/util/BitSet;" (.ref b7) ∧ n0 ≤ b7 ∧ h0.size ≤ b7 ∧ Exa Z h b7 "java/util/BitSet" ∧ Fld Z h b7 "java/util/BitSet" "wordsInUse" "I" (.int (0 : Int32)) ∧ Fld Z h b7 "java/util/BitSet" "sizeIsSticky" "Z" (.int (0 : Int32)) ∧ Fld Z h b7 "java/util/BitSet" "words" "[J" (.ref b34) ∧ n0 ≤ b34 ∧ h0.size ≤ b34 ∧ Arj Z h b34 k35 ((((64 : Int32) - (1 : Int32)) >>> ((6 : Int32) &&& 31)) + (1 : Int32)) (fun _ => (0 : Int64)) ∧ n0 ≤ b42 ∧ h0.size ≤ b42 ∧ Exa Z h b42 "java/util/BitSet" ∧ Fld Z h b42 "java/util/BitSet" "wordsInUse" "I" (.int (0 : Int32)) ∧ Fld Z h b42 "java/util/BitSet" "sizeIsSticky" "Z" (.int (0 : Int32)) ∧ Fld Z h b42 "java/util/BitSet" "words" "[J" (.ref b47) ∧ n0 ≤ b47 ∧ h0.size ≤ b47 ∧ Arj Z h b47 k48 ((((64 : Int32) - (1 : Int32)) >>> ((6 : Int32) &&& 31)) + (1 : Int32)) (fun _ => (0 : Int64)) ∧ b7 ≠ b34 ∧ b7 ≠ b42 ∧ b7 ≠ b47 ∧ b34 ≠ b42 ∧ b34 ≠ b47 ∧ b42 ≠ b47
set_option maxRecDepth 65536 in
set_option maxHeartbeats 40000000 in
theorem rm1x1 (l : Launch) (Z : State) (a0 : Array Value) (hw : ∀ d ∈ tables_1, d.before a0 Z = true) (hv : ∀ d ∈ jdkStatics_1, d.before a0 Z = true) (ws : List Jvm.Cond) (w_1 : Addr) (w_2 : Addr) (hS : StF Z w_1 w_2) (r0 : Addr) (h0 : Heap) (n0 : Nat) (O0 : Old Z n0 h0) (g_r0 : n0 ≤ r0) (E_r0 : Exa Z h0 r0 "com/example/vetd/vetd/Policy$Lines") (F_denied_r0 : Fld Z h0 r0 "com/example/vetd/vetd/Policy$Lines" "denied" "Ljava/util/BitSet;" .null) (F_permitted_r0 : Fld Z h0 r0 "com/example/vetd/vetd/Policy$Lines" "permitted" "Ljava/util/BitSet;" .null) :
    MetFree l Y8 (head1 (Jvm.Cond.code Y8 prog_20_method_1_code 1 none :: ws) ({ frames := 3, cells := 4, slots := 8, locals := 40 } : Room)) (fun a U => a = #[(.ref r0)] ∧ Z.Warmed39 U.vm ∧ U.heap = h0) (fun _ _ _ _ _ => True) (fun _ U o U' => ∃ v L, o = .returned v ∧ Q1x1 Z w_1 w_2 r0 h0 n0 v U'.heap L ∧ FrameEnd U o U' L ({ frames := 3, cells := 4, slots := 8, locals := 40 } : Room).cells ({ frames := 3, cells := 4, slots := 8, locals := 40 } : Room).slots) := by
  refine MetFree.of_bodySF (plainFor_of_name pn_1x1) hisR ?_
  intro p e s m args below meth c s₁ Bd hml0 hP hK
  obtain ⟨rfl, hZ, hh⟩ := hP
  have hx := Bd.exec
  have hby := Bd.bytes
  have hml : c.maxLocals = 1 := hml0
  have hown : s.vm.findClass "com/example/vetd/vetd/Policy$Lines" = some m.cls := findClass_of_methodNamed Bd.named
  have hnm := (name_of_methodNamed Bd.named Bd.method).1
  have X0 : Stand p l e ({ frames := 3, cells := 4, slots := 8, locals := 40 } : Room) s m #[(.ref r0)] below meth c s₁ [] 0 0 := Stand.of_body Bd
  have e0 : s₁.heap = h0 := by rw [← hh, Bd.state]; rfl
  have N0 := Fr.nil n0
  have hS0 := hS
  obtain ⟨S_1, E_1, S_2, E_2, S_3⟩ := hS
  have pre0 : ∀ t, Steps p.tables e below (s₁.setTop (mkF m 0 #[.val (.ref r0)] [])) t → Steps p.tables e below (s₁.setTop (entryFrame m #[(.ref r0)] 1)) t := fun t k => castTop (ef_1x1 m r0) k
  generalize hE0 : s₁.setTop (entryFrame m #[(.ref r0)] 1) = E0 at pre0 ⊢
  obtain ⟨T6, X6, e6, st6⟩ := initO X0 hx hZ hown (hw _ (tk 6 rfl)) (hw _ (tk 7 rfl)) (hw _ (tk 8 rfl)) e0 (g := (mkF m 1 (lt3 r0) [(.ref r0)])) rfl (by rw [hml]; rfl) rfl (hb hby d1_1) (by decide) (W := 0) (by show 2 * 0 + _ ≤ _; exact Nat.le_of_eq rfl) (by decide)
  obtain ⟨T7, h7, X7, e7, E7, A7, D7, -, st7⟩ := newO X6 hx hZ hown (hw _ (tk 9 rfl)) (hw _ (tk 10 rfl)) (hw _ (tk 11 rfl)) e6 (g := (mkF m 5 (lt3 r0) [(.ref r0)])) rfl (hb hby d1_5) (by decide) (by decide)
  obtain ⟨b7, g7⟩ : ∃ z, z = h0.size := ⟨_, rfl⟩
  rw [← g7] at A7 D7 st7
  have g_b7 : n0 ≤ b7 := Nat.le_trans (own_old O0) (Nat.le_of_eq g7.symm)
  have sz_b7 : h0.size ≤ b7 := Nat.le_trans (Keep.refl h0 [r0]).1 (Nat.le_of_eq g7.symm)
  have ne_r0_b7 : r0 ≠ b7 := Nat.ne_of_lt (Nat.lt_of_lt_of_le E_r0.lt (Nat.le_of_eq g7.symm))
  have O7 : Old Z n0 h7 := O0.ext E7
  have K7 : Keep h0 h7 [r0] := (Keep.refl h0 [r0]).ext E7
  have F_wordsInUse_b7 : Fld Z h7 b7 "java/util/BitSet" "wordsInUse" "I" (.int (0 : Int32)) := D7 (Or.inl (hw _ (tk 17 rfl))) (ty := .int) (by decide)
  have F_sizeIsSticky_b7 : Fld Z h7 b7 "java/util/BitSet" "sizeIsSticky" "Z" (.int (0 : Int32)) := D7 (Or.inl (hw _ (tk 19 rfl))) (ty := .boolean) (by decide)
  have F_words_b7 : Fld Z h7 b7 "java/util/BitSet" "words" "[J" .null := D7 (Or.inl (hw _ (tk 30 rfl))) (ty := (.array .long)) (by decide)
  have c33 := (E_r0.ext E7)
  obtain ⟨_, _, ⟨T32, L32, k32, n32⟩, -, X32, ⟨Lc32, hQ32, l32, y32, z32⟩, st32⟩ := X7.specialBack hx (y := Y7) rfl hown (mvT hZ (hw _ (tk 12 rfl))) (mvT hZ (hw _ (tk 13 rfl))) (mvT hZ (hw _ (tk 14 rfl))) (by decide) (backOf (W := 2) (rm3x1 l Z a0 hw hv [] w_1 w_2 hS0 b7 h7 n0 O7 g_b7 A7 F_sizeIsSticky_b7 F_words_b7 F_wordsInUse_b7) hZ (hw _ (tk 14 rfl)) (hw _ (tk 11 rfl)) (by decide) (by decide)) (g := (mkF m 9 (lt3 r0) [(.ref b7), (.ref b7), (.ref r0)])) rfl (by rw [hml]; rfl) (Steps.refl _) (a := b7) (argsL := []) (rest := [(.ref b7), (.ref r0)]) (lenOf pd_2 rfl) rfl (by show 2 * 0 + _ ≤ _; exact Nat.le_of_eq rfl) (hb hby d1_9) (fun _ _ => ⟨rfl, e7, (by decide : 1 + 1 ≤ _), (by decide : 3 + 1 ≤ _)⟩)
  dsimp only [Pt.U, Pt.locs, Pt.cells, Pt.slots] at X32 l32 y32 z32 st32 hQ32
  subst l32 y32 z32
  obtain ⟨b34, k35, rv32, N32q, O32, K32c, Fe32_0, Fe32_1, Fe32_2, Fx32_0, Fx32_1, Fx32_2⟩ := hQ32
  subst rv32
  have N32 := Fr.app N0 N32q
  have K32 : Keep h0 T32.heap [r0] := K7.trans K32c (allS (Or.inr sz_b7) all0)
  have g_b34 := Fx32_0
  have sz_b34 : h0.size ≤ b34 := Nat.le_trans K7.1 Fx32_1
  have ne_r0_b34 : r0 ≠ b34 := Nat.ne_of_lt (Nat.lt_of_lt_of_le c33.lt Fx32_1)
  have ne_b7_b34 : b7 ≠ b34 := Nat.ne_of_lt (Nat.lt_of_lt_of_le A7.lt Fx32_1)
  have c36 := (c33.keep K32c)
  have c37 := ((F_permitted_r0.ext E7).keep K32c (ninS ne_r0_b7 nin0))
  obtain ⟨T38, h38, X38, e38, W38, st38⟩ := putF X32 hx hZ hown (host := "") (Or.inl (hw _ (tk 31 rfl))) Via.refl rfl c37 c36 (Or.inr ⟨(hw _ (tk 32 rfl)), rfl, hnm⟩) (hw _ (tk 1 rfl)) (ty := (.object "java/util/BitSet")) (by decide) rfl rfl (g := (mkF m 12 (lt3 r0) [(.ref b7), (.ref r0)])) rfl rfl (hb hby d1_12)
  have Fw38 := c37.same W38
  have O38 : Old Z n0 h38 := O32.wr W38 g_r0
  have N38 := Fr.snoc X38 N32 g_r0
  have K38 : Keep h0 h38 [r0] := K32.wr W38 (Or.inl (List.mem_of_getElem? (i := 0) rfl))
  have c39 := (c36.wr W38)
  have c40 := ((A7.keep K32c).wr W38)
  have c41 := (Fx32_2.other W38 (Ne.symm ne_r0_b34))
  obtain ⟨T42, h42, X42, e42, E42, A42, D42, -, st42⟩ := newO X38 hx hZ hown (hw _ (tk 9 rfl)) (hw _ (tk 10 rfl)) (hw _ (tk 11 rfl)) e38 (g := (mkF m 16 (lt3 r0) [(.ref r0)])) rfl (hb hby d1_16) (by decide) (by decide)
  obtain ⟨b42, g42⟩ : ∃ z, z = h38.size := ⟨_, rfl⟩
  rw [← g42] at A42 D42 st42
  have g_b42 : n0 ≤ b42 := Nat.le_trans (own_old O38) (Nat.le_of_eq g42.symm)
  have sz_b42 : h0.size ≤ b42 := Nat.le_trans K38.1 (Nat.le_of_eq g42.symm)
  have ne_r0_b42 : r0 ≠ b42 := Nat.ne_of_lt (Nat.lt_of_lt_of_le c39.lt (Nat.le_of_eq g42.symm))
  have ne_b7_b42 : b7 ≠ b42 := Nat.ne_of_lt (Nat.lt_of_lt_of_le c40.lt (Nat.le_of_eq g42.symm))
  have ne_b34_b42 : b34 ≠ b42 := Nat.ne_of_lt (Nat.lt_of_lt_of_le c41.lt (Nat.le_of_eq g42.symm))
  have O42 : Old Z n0 h42 := O38.ext E42
  have K42 : Keep h0 h42 [r0] := K38.ext E42
  have F_wordsInUse_b42 : Fld Z h42 b42 "java/util/BitSet" "wordsInUse" "I" (.int (0 : Int32)) := D42 (Or.inl (hw _ (tk 17 rfl))) (ty := .int) (by decide)
  have F_sizeIsSticky_b42 : Fld Z h42 b42 "java/util/BitSet" "sizeIsSticky" "Z" (.int (0 : Int32)) := D42 (Or.inl (hw _ (tk 19 rfl))) (ty := .boolean) (by decide)
  have F_words_b42 : Fld Z h42 b42 "java/util/BitSet" "words" "[J" .null := D42 (Or.inl (hw _ (tk 30 rfl))) (ty := (.array .long)) (by decide)
  have c44 := (c39.ext E42)
  have c45 := (c40.ext E42)
  have c46 := (c41.ext E42)
  obtain ⟨_, _, ⟨T43, L43, k43, n43⟩, -, X43, ⟨Lc43, hQ43, l43, y43, z43⟩, st43⟩ := X42.specialBack hx (y := Y7) rfl hown (mvT hZ (hw _ (tk 12 rfl))) (mvT hZ (hw _ (tk 13 rfl))) (mvT hZ (hw _ (tk 14 rfl))) (by decide) (backOf (W := 2) (rm3x1 l Z a0 hw hv [] w_1 w_2 hS0 b42 h42 n0 O42 g_b42 A42 F_sizeIsSticky_b42 F_words_b42 F_wordsInUse_b42) hZ (hw _ (tk 14 rfl)) (hw _ (tk 11 rfl)) (by decide) (by decide)) (g := (mkF m 20 (lt3 r0) [(.ref b42), (.ref b42), (.ref r0)])) rfl (by rw [hml]; rfl) (Steps.refl _) (a := b42) (argsL := []) (rest := [(.ref b42), (.ref r0)]) (lenOf pd_2 rfl) rfl (by show 2 * 0 + _ ≤ _; exact Nat.le_of_eq rfl) (hb hby d1_20) (fun _ _ => ⟨rfl, e42, (by decide : 3 + 1 ≤ _), (by decide : 7 + 1 ≤ _)⟩)
  dsimp only [Pt.U, Pt.locs, Pt.cells, Pt.slots] at X43 l43 y43 z43 st43 hQ43
  subst l43 y43 z43
  obtain ⟨b47, k48, rv43, N43q, O43, K43c, Fe43_0, Fe43_1, Fe43_2, Fx43_0, Fx43_1, Fx43_2⟩ := hQ43
  subst rv43
  have N43 := Fr.app N38 N43q
  have K43 : Keep h0 T43.heap [r0] := K42.trans K43c (allS (Or.inr sz_b42) all0)
  have g_b47 := Fx43_0
  have sz_b47 : h0.size ≤ b47 := Nat.le_trans K42.1 Fx43_1
  have ne_r0_b47 : r0 ≠ b47 := Nat.ne_of_lt (Nat.lt_of_lt_of_le c44.lt Fx43_1)
  have ne_b7_b47 : b7 ≠ b47 := Nat.ne_of_lt (Nat.lt_of_lt_of_le c45.lt Fx43_1)
  have ne_b34_b47 : b34 ≠ b47 := Nat.ne_of_lt (Nat.lt_of_lt_of_le c46.lt Fx43_1)
  have ne_b42_b47 : b42 ≠ b47 := Nat.ne_of_lt (Nat.lt_of_lt_of_le A42.lt Fx43_1)
  have c49 := (c44.keep K43c)
  have c50 := (((((F_denied_r0.ext E7).keep K32c (ninS ne_r0_b7 nin0)).other W38 (Or.inr (slot_ne (Or.inr (hw _ (tk 34 rfl))) (Or.inr (hw _ (tk 32 rfl))) (by decide) (t := (.object "java/util/BitSet")) (t' := (.object "java/util/BitSet")) (by decide) (by decide)))).ext E42).keep K43c (ninS ne_r0_b42 nin0))
  obtain ⟨T51, h51, X51, e51, W51, st51⟩ := putF X43 hx hZ hown (host := "") (Or.inl (hw _ (tk 33 rfl))) Via.refl rfl c50 c49 (Or.inr ⟨(hw _ (tk 34 rfl)), rfl, hnm⟩) (hw _ (tk 1 rfl)) (ty := (.object "java/util/BitSet")) (by decide) rfl rfl (g := (mkF m 23 (lt3 r0) [(.ref b42), (.ref r0)])) rfl rfl (hb hby d1_23)
  have Fw51 := c50.same W51
  have O51 : Old Z n0 h51 := O43.wr W51 g_r0
  have N51 := Fr.snoc X51 N43 g_r0
  have K51 : Keep h0 h51 [r0] := K43.wr W51 (Or.inl (List.mem_of_getElem? (i := 0) rfl))
  obtain ⟨fs, hr, hrun, hended, hW, hsame⟩ := X51.leave (v := none) (fun _ => rfl)
  have c52 := ((c45.keep K43c).wr W51)
  have c53 := ((((Fe32_2.other W38 (Or.inl (Ne.symm ne_r0_b7))).ext E42).keep K43c (ninS ne_b7_b42 nin0)).other W51 (Or.inl (Ne.symm ne_r0_b7)))
  have c54 := ((((Fe32_0.other W38 (Or.inl (Ne.symm ne_r0_b7))).ext E42).keep K43c (ninS ne_b7_b42 nin0)).other W51 (Or.inl (Ne.symm ne_r0_b7)))
  have c55 := ((((Fe32_1.other W38 (Or.inl (Ne.symm ne_r0_b7))).ext E42).keep K43c (ninS ne_b7_b42 nin0)).other W51 (Or.inl (Ne.symm ne_r0_b7)))
  have c56 := ((c46.keep K43c (ninS ne_b34_b42 nin0)).other W51 (Ne.symm ne_r0_b34))
  have c57 := ((A42.keep K43c).wr W51)
  have c58 := (Fe43_2.other W51 (Or.inl (Ne.symm ne_r0_b42)))
  have c59 := (Fe43_0.other W51 (Or.inl (Ne.symm ne_r0_b42)))
  have c60 := (Fe43_1.other W51 (Or.inl (Ne.symm ne_r0_b42)))
  have c61 := (Fx43_2.other W51 (Ne.symm ne_r0_b47))
  have c62 := (((Fw38.ext E42).keep K43c (ninS ne_r0_b42 nin0)).other W51 (Or.inr (slot_ne (Or.inr (hw _ (tk 32 rfl))) (Or.inr (hw _ (tk 34 rfl))) (by decide) (t := (.object "java/util/BitSet")) (t' := (.object "java/util/BitSet")) (by decide) (by decide))))
  refine ⟨_, _, pre0 _ ?_, hrun, hended, _, _, rfl, ?_, ⟨_, rfl⟩, hW, hsame.mono (by decide) (by decide)⟩
  · show Sp p e below s₁ (mkF m 0 (lt3 r0) []) _
    refine XS.aloadN X0.here hx rfl (hb hby d1_0) rfl rfl ?_
    show Sp p e below s₁ (mkF m 1 (lt3 r0) [(.ref r0)]) _
    refine st6 _ ?_
    show Sp p e below T6 (mkF m 4 (lt3 r0) []) _
    refine XS.aloadN X6.here hx rfl (hb hby d1_4) rfl rfl ?_
    show Sp p e below T6 (mkF m 5 (lt3 r0) [(.ref r0)]) _
    refine st7 _ ?_
    show Sp p e below T7 (mkF m 8 (lt3 r0) [(.ref b7), (.ref r0)]) _
    refine XS.dup X7.here hx rfl (hb hby d1_8) rfl rfl ?_
    show Sp p e below T7 (mkF m 9 (lt3 r0) [(.ref b7), (.ref b7), (.ref r0)]) _
    refine st32.trans ?_
    show Sp p e below T32 (mkF m 12 (lt3 r0) [(.ref b7), (.ref r0)]) _
    refine st38 _ ?_
    show Sp p e below T38 (mkF m 15 (lt3 r0) []) _
    refine XS.aloadN X38.here hx rfl (hb hby d1_15) rfl rfl ?_
    show Sp p e below T38 (mkF m 16 (lt3 r0) [(.ref r0)]) _
    refine st42 _ ?_
    show Sp p e below T42 (mkF m 19 (lt3 r0) [(.ref b42), (.ref r0)]) _
    refine XS.dup X42.here hx rfl (hb hby d1_19) rfl rfl ?_
    show Sp p e below T42 (mkF m 20 (lt3 r0) [(.ref b42), (.ref b42), (.ref r0)]) _
    refine st43.trans ?_
    show Sp p e below T43 (mkF m 23 (lt3 r0) [(.ref b42), (.ref r0)]) _
    refine st51 _ ?_
    show Sp p e below T51 (mkF m 26 (lt3 r0) []) _
    exact X51.returnOut hx Bd.returns (hb hby d1_26) hr
  · show Q1x1 Z w_1 w_2 r0 h0 n0 _ T51.heap _
    rw [e51]
    exact ⟨b7, b34, k35, b42, b47, k48, rfl, N51, O51, K51, Fw51, c62, g_b7, sz_b7, c52, c53, c54, c55, g_b34, sz_b34, c56, g_b42, sz_b42, c57, c58, c59, c60, g_b47, sz_b47, c61, ne_b7_b34, ne_b7_b42, ne_b7_b47, ne_b34_b42, ne_b34_b47, ne_b42_b47⟩
theorem ef_13 (m : MethodId) (p0 : Int32) (p1 : Int32) : entryFrame m #[(.int p0), (.int p1)] 2 = mkF m 0 #[.val (.int p0), .val (.int p1)] [] := by first | (simp [entryFrame, mkF, argsToLocals, Value.category]; done) | rfl
def sp13 (p0 : Int32) (p1 : Int32) : Int32 := (if p0 < p1 then p1 else p0)
def Q13 (Z : State) (w_1 : Addr) (w_2 : Addr) (p0 : Int32) (p1 : Int32) (h0 : Heap) (n0 : Nat) (v : Option Value) (h : Heap) (L : List Loc) : Prop := v = some (.int (sp13 p0 p1)) ∧ Fr n0 L ∧ h = h0
set_option maxRecDepth 65536 in
set_option maxHeartbeats 40000000 in
theorem rm13 (l : Launch) (Z : State) (a0 : Array Value) (hw : ∀ d ∈ tables_1, d.before a0 Z = true) (hv : ∀ d ∈ jdkStatics_1, d.before a0 Z = true) (ws : List Jvm.Cond) (w_1 : Addr) (w_2 : Addr) (hS : StF Z w_1 w_2) (p0 : Int32) (p1 : Int32) (h0 : Heap) (n0 : Nat) (O0 : Old Z n0 h0) :
    MetFree l Y13 (head1 (Jvm.Cond.code Y13 jdk_29_method_65_code 2 (some .int) :: ws) ({ frames := 0, cells := 0, slots := 0, locals := 0 } : Room)) (fun a U => a = #[(.int p0), (.int p1)] ∧ Z.Warmed39 U.vm ∧ U.heap = h0) (fun _ _ _ _ _ => True) (fun _ U o U' => ∃ v L, o = .returned v ∧ Q13 Z w_1 w_2 p0 p1 h0 n0 v U'.heap L ∧ FrameEnd U o U' L ({ frames := 0, cells := 0, slots := 0, locals := 0 } : Room).cells ({ frames := 0, cells := 0, slots := 0, locals := 0 } : Room).slots) := by
  refine MetFree.of_bodySF (Jvm.Free.JP.mathPlain rfl (by decide +kernel)) hisR ?_
  intro p e s m args below meth c s₁ Bd hml0 hP hK
  obtain ⟨rfl, hZ, hh⟩ := hP
  have hx := Bd.exec
  have hby := Bd.bytes
  have hml : c.maxLocals = 2 := hml0
  have hown : s.vm.findClass "java/lang/Math" = some m.cls := findClass_of_methodNamed Bd.named
  have hnm := (name_of_methodNamed Bd.named Bd.method).1
  have X0 : Stand p l e ({ frames := 0, cells := 0, slots := 0, locals := 0 } : Room) s m #[(.int p0), (.int p1)] below meth c s₁ [] 0 0 := Stand.of_body Bd
  have e0 : s₁.heap = h0 := by rw [← hh, Bd.state]; rfl
  have N0 := Fr.nil n0
  have hS0 := hS
  obtain ⟨S_1, E_1, S_2, E_2, S_3⟩ := hS
  have pre0 : ∀ t, Steps p.tables e below (s₁.setTop (mkF m 0 #[.val (.int p0), .val (.int p1)] [])) t → Steps p.tables e below (s₁.setTop (entryFrame m #[(.int p0), (.int p1)] 2)) t := fun t k => castTop (ef_13 m p0 p1) k
  generalize hE0 : s₁.setTop (entryFrame m #[(.int p0), (.int p1)] 2) = E0 at pre0 ⊢
  have pre109 : Cm p e below E0 (s₁.setTop (mkF m 2 (lt9 p0 p1) [(.int p1), (.int p0)])) := fun t kt => by
    refine pre0 t ?_
    show Sp p e below s₁ (mkF m 0 (lt9 p0 p1) []) _
    refine XS.iloadN X0.here hx rfl (hb hby d13_0) rfl ?_
    refine XS.iloadN X0.here hx rfl (hb hby d13_1) rfl ?_
    show Sp p e below s₁ (mkF m 2 (lt9 p0 p1) [(.int p1), (.int p0)]) _
    exact kt
  by_cases hc110 : p0 < p1
  · obtain ⟨fs, hr, hrun, hended, hW, hsame⟩ := X0.leave (v := some (.int p1)) (fun h => by rw [Bd.returns] at h; cases h)
    refine ⟨_, _, pre109 _ ?_, hrun, hended, _, _, rfl, ?_, ⟨_, rfl⟩, hW, hsame.mono (by decide) (by decide)⟩
    · show Sp p e below s₁ (mkF m 2 (lt9 p0 p1) [(.int p1), (.int p0)]) _
      refine XS.icmpYes X0.here hx rfl (pc0 := 2) (pc' := 9) rfl (hb hby d13_2) rfl (tlt hc110).1 (by decide) (by decide) ?_
      show Sp p e below s₁ (mkF m 9 (lt9 p0 p1) []) _
      refine XS.iloadN X0.here hx rfl (hb hby d13_9) rfl ?_
      show Sp p e below s₁ (mkF m 10 (lt9 p0 p1) [(.int p1)]) _
      exact retI X0 hx Bd.returns (hb hby d13_10) hr
    · show Q13 Z w_1 w_2 p0 p1 h0 n0 _ s₁.heap _
      rw [e0]
      exact ⟨by unfold sp13; rw [if_pos hc110], N0, rfl⟩
  · obtain ⟨fs, hr, hrun, hended, hW, hsame⟩ := X0.leave (v := some (.int p0)) (fun h => by rw [Bd.returns] at h; cases h)
    refine ⟨_, _, pre109 _ ?_, hrun, hended, _, _, rfl, ?_, ⟨_, rfl⟩, hW, hsame.mono (by decide) (by decide)⟩
    · show Sp p e below s₁ (mkF m 2 (lt9 p0 p1) [(.int p1), (.int p0)]) _
      refine XS.icmpNo X0.here hx rfl (hb hby d13_2) rfl (flt hc110).1 ?_
      show Sp p e below s₁ (mkF m 5 (lt9 p0 p1) []) _
      refine XS.iloadN X0.here hx rfl (hb hby d13_5) rfl ?_
      show Sp p e below s₁ (mkF m 6 (lt9 p0 p1) [(.int p0)]) _
      refine XS.goto X0.here hx rfl (pc0 := 6) (pc' := 10) rfl (hb hby d13_6) (by decide) (by decide) ?_
      show Sp p e below s₁ (mkF m 10 (lt9 p0 p1) [(.int p0)]) _
      exact retI X0 hx Bd.returns (hb hby d13_10) hr
    · show Q13 Z w_1 w_2 p0 p1 h0 n0 _ s₁.heap _
      rw [e0]
      exact ⟨by unfold sp13; rw [if_neg hc110], N0, rfl⟩
theorem ef_15 (m : MethodId) (p0 : Int32) (p1 : Int32) : entryFrame m #[(.int p0), (.int p1)] 2 = mkF m 0 #[.val (.int p0), .val (.int p1)] [] := by first | (simp [entryFrame, mkF, argsToLocals, Value.category]; done) | rfl
def sp15 (p0 : Int32) (p1 : Int32) : Int32 := (if p1 < p0 then p1 else p0)
def Q15 (Z : State) (w_1 : Addr) (w_2 : Addr) (p0 : Int32) (p1 : Int32) (h0 : Heap) (n0 : Nat) (v : Option Value) (h : Heap) (L : List Loc) : Prop := v = some (.int (sp15 p0 p1)) ∧ Fr n0 L ∧ h = h0
set_option maxRecDepth 65536 in
set_option maxHeartbeats 40000000 in
theorem rm15 (l : Launch) (Z : State) (a0 : Array Value) (hw : ∀ d ∈ tables_1, d.before a0 Z = true) (hv : ∀ d ∈ jdkStatics_1, d.before a0 Z = true) (ws : List Jvm.Cond) (w_1 : Addr) (w_2 : Addr) (hS : StF Z w_1 w_2) (p0 : Int32) (p1 : Int32) (h0 : Heap) (n0 : Nat) (O0 : Old Z n0 h0) :
    MetFree l Y15 (head1 (Jvm.Cond.code Y15 jdk_29_method_69_code 2 (some .int) :: ws) ({ frames := 0, cells := 0, slots := 0, locals := 0 } : Room)) (fun a U => a = #[(.int p0), (.int p1)] ∧ Z.Warmed39 U.vm ∧ U.heap = h0) (fun _ _ _ _ _ => True) (fun _ U o U' => ∃ v L, o = .returned v ∧ Q15 Z w_1 w_2 p0 p1 h0 n0 v U'.heap L ∧ FrameEnd U o U' L ({ frames := 0, cells := 0, slots := 0, locals := 0 } : Room).cells ({ frames := 0, cells := 0, slots := 0, locals := 0 } : Room).slots) := by
  refine MetFree.of_bodySF (Jvm.Free.JP.mathPlain rfl (by decide +kernel)) hisR ?_
  intro p e s m args below meth c s₁ Bd hml0 hP hK
  obtain ⟨rfl, hZ, hh⟩ := hP
  have hx := Bd.exec
  have hby := Bd.bytes
  have hml : c.maxLocals = 2 := hml0
  have hown : s.vm.findClass "java/lang/Math" = some m.cls := findClass_of_methodNamed Bd.named
  have hnm := (name_of_methodNamed Bd.named Bd.method).1
  have X0 : Stand p l e ({ frames := 0, cells := 0, slots := 0, locals := 0 } : Room) s m #[(.int p0), (.int p1)] below meth c s₁ [] 0 0 := Stand.of_body Bd
  have e0 : s₁.heap = h0 := by rw [← hh, Bd.state]; rfl
  have N0 := Fr.nil n0
  have hS0 := hS
  obtain ⟨S_1, E_1, S_2, E_2, S_3⟩ := hS
  have pre0 : ∀ t, Steps p.tables e below (s₁.setTop (mkF m 0 #[.val (.int p0), .val (.int p1)] [])) t → Steps p.tables e below (s₁.setTop (entryFrame m #[(.int p0), (.int p1)] 2)) t := fun t k => castTop (ef_15 m p0 p1) k
  generalize hE0 : s₁.setTop (entryFrame m #[(.int p0), (.int p1)] 2) = E0 at pre0 ⊢
  have pre307 : Cm p e below E0 (s₁.setTop (mkF m 2 (lt9 p0 p1) [(.int p1), (.int p0)])) := fun t kt => by
    refine pre0 t ?_
    show Sp p e below s₁ (mkF m 0 (lt9 p0 p1) []) _
    refine XS.iloadN X0.here hx rfl (hb hby d15_0) rfl ?_
    refine XS.iloadN X0.here hx rfl (hb hby d15_1) rfl ?_
    show Sp p e below s₁ (mkF m 2 (lt9 p0 p1) [(.int p1), (.int p0)]) _
    exact kt
  by_cases hc308 : p1 < p0
  · obtain ⟨fs, hr, hrun, hended, hW, hsame⟩ := X0.leave (v := some (.int p1)) (fun h => by rw [Bd.returns] at h; cases h)
    refine ⟨_, _, pre307 _ ?_, hrun, hended, _, _, rfl, ?_, ⟨_, rfl⟩, hW, hsame.mono (by decide) (by decide)⟩
    · show Sp p e below s₁ (mkF m 2 (lt9 p0 p1) [(.int p1), (.int p0)]) _
      refine XS.icmpYes X0.here hx rfl (pc0 := 2) (pc' := 9) rfl (hb hby d15_2) rfl (tlt hc308).2.2.1 (by decide) (by decide) ?_
      show Sp p e below s₁ (mkF m 9 (lt9 p0 p1) []) _
      refine XS.iloadN X0.here hx rfl (hb hby d15_9) rfl ?_
      show Sp p e below s₁ (mkF m 10 (lt9 p0 p1) [(.int p1)]) _
      exact retI X0 hx Bd.returns (hb hby d15_10) hr
    · show Q15 Z w_1 w_2 p0 p1 h0 n0 _ s₁.heap _
      rw [e0]
      exact ⟨by unfold sp15; rw [if_pos hc308], N0, rfl⟩
  · obtain ⟨fs, hr, hrun, hended, hW, hsame⟩ := X0.leave (v := some (.int p0)) (fun h => by rw [Bd.returns] at h; cases h)
    refine ⟨_, _, pre307 _ ?_, hrun, hended, _, _, rfl, ?_, ⟨_, rfl⟩, hW, hsame.mono (by decide) (by decide)⟩
    · show Sp p e below s₁ (mkF m 2 (lt9 p0 p1) [(.int p1), (.int p0)]) _
      refine XS.icmpNo X0.here hx rfl (hb hby d15_2) rfl (flt hc308).2.2.1 ?_
      show Sp p e below s₁ (mkF m 5 (lt9 p0 p1) []) _
      refine XS.iloadN X0.here hx rfl (hb hby d15_5) rfl ?_
      show Sp p e below s₁ (mkF m 6 (lt9 p0 p1) [(.int p0)]) _
      refine XS.goto X0.here hx rfl (pc0 := 6) (pc' := 10) rfl (hb hby d15_6) (by decide) (by decide) ?_
      show Sp p e below s₁ (mkF m 10 (lt9 p0 p1) [(.int p0)]) _
      exact retI X0 hx Bd.returns (hb hby d15_10) hr
    · show Q15 Z w_1 w_2 p0 p1 h0 n0 _ s₁.heap _
      rw [e0]
      exact ⟨by unfold sp15; rw [if_neg hc308], N0, rfl⟩
theorem pn_14x1 : plainName "java/util/Arrays" = true := by first | (simp [plainName, overriddenIn]; done) | decide +kernel
theorem ef_14x1 (m : MethodId) (r0 : Addr) (p1 : Int32) : entryFrame m #[(.ref r0), (.int p1)] 3 = mkF m 0 #[.val (.ref r0), .val (.int p1), .unset] [] := by first | (simp [entryFrame, mkF, argsToLocals, Value.category]; done) | rfl
def Q14x1 (Z : State) (w_1 : Addr) (w_2 : Addr) (r0 : Addr) (p1 : Int32) (k_r0 : ClassId) (x_r0_n : Int32) (x_r0_F : Nat → Int64) (cpN : Nat) (h0 : Heap) (n0 : Nat) (v : Option Value) (h : Heap) (L : List Loc) : Prop := ∃ (b438 : Addr) (k438 : ClassId), v = some (.ref b438) ∧ Fr n0 L ∧ Old Z n0 h ∧ Keep h0 h [] ∧ n0 ≤ b438 ∧ h0.size ≤ b438 ∧ Arj Z h b438 k438 p1 (ovF x_r0_F (x_r0_n).toNatClampNeg (fun _ => (0 : Int64)))
set_option maxRecDepth 65536 in
set_option maxHeartbeats 40000000 in
theorem rm14x1 (l : Launch) (Z : State) (a0 : Array Value) (hw : ∀ d ∈ tables_1, d.before a0 Z = true) (hv : ∀ d ∈ jdkStatics_1, d.before a0 Z = true) (ws : List Jvm.Cond) (w_1 : Addr) (w_2 : Addr) (hS : StF Z w_1 w_2) (r0 : Addr) (p1 : Int32) (k_r0 : ClassId) (x_r0_n : Int32) (x_r0_F : Nat → Int64) (cpN : Nat) (h0 : Heap) (n0 : Nat) (O0 : Old Z n0 h0) (g_r0 : n0 ≤ r0) (V_r0 : Arj Z h0 r0 k_r0 x_r0_n x_r0_F) (as0 : ¬ (p1 = x_r0_n)) (as1 : ¬ (p1 < (0 : Int32))) (as2 : ¬ (p1 < x_r0_n)) (hcp : (p1).toNatClampNeg ≤ cpN) (hcb : cpN * 8 ≤ 536870912) :
    MetFree l Y16 (head1 (Jvm.Cond.code Y16 jdk_65_method_124_code 3 (some (.array .long)) :: ws) ({ frames := 1, cells := 1, slots := (0 + cpN), locals := 18 } : Room)) (fun a U => a = #[(.ref r0), (.int p1)] ∧ Z.Warmed39 U.vm ∧ U.heap = h0) (fun _ _ _ _ _ => True) (fun _ U o U' => ∃ v L, o = .returned v ∧ Q14x1 Z w_1 w_2 r0 p1 k_r0 x_r0_n x_r0_F cpN h0 n0 v U'.heap L ∧ FrameEnd U o U' L ({ frames := 1, cells := 1, slots := (0 + cpN), locals := 18 } : Room).cells ({ frames := 1, cells := 1, slots := (0 + cpN), locals := 18 } : Room).slots) := by
  refine MetFree.of_bodySF (plainFor_of_name pn_14x1) hisR ?_
  intro p e s m args below meth c s₁ Bd hml0 hP hK
  obtain ⟨rfl, hZ, hh⟩ := hP
  have hx := Bd.exec
  have hby := Bd.bytes
  have hml : c.maxLocals = 3 := hml0
  have hown : s.vm.findClass "java/util/Arrays" = some m.cls := findClass_of_methodNamed Bd.named
  have hnm := (name_of_methodNamed Bd.named Bd.method).1
  have X0 : Stand p l e ({ frames := 1, cells := 1, slots := (0 + cpN), locals := 18 } : Room) s m #[(.ref r0), (.int p1)] below meth c s₁ [] 0 0 := Stand.of_body Bd
  have e0 : s₁.heap = h0 := by rw [← hh, Bd.state]; rfl
  have N0 := Fr.nil n0
  have hS0 := hS
  obtain ⟨S_1, E_1, S_2, E_2, S_3⟩ := hS
  have pre0 : ∀ t, Steps p.tables e below (s₁.setTop (mkF m 0 #[.val (.ref r0), .val (.int p1), .unset] [])) t → Steps p.tables e below (s₁.setTop (entryFrame m #[(.ref r0), (.int p1)] 3)) t := fun t k => castTop (ef_14x1 m r0 p1) k
  generalize hE0 : s₁.setTop (entryFrame m #[(.ref r0), (.int p1)] 3) = E0 at pre0 ⊢
  obtain ⟨cl437, Ar437, qa437, Sa437, Ma437, Ha437, Ga437⟩ := id V_r0
  obtain ⟨T438, h438, k438, X438, e438, E438, A438, st438⟩ := newP X0 hx hZ (hw _ (tk 28 rfl)) e0 (g := (mkF m 15 (lt7 r0 p1) [(.int p1)])) rfl (hb hby d14_15) rfl as1 (cap := cpN) hcp hcb (by first | decide | exact Nat.le_of_ble_eq_true rfl | (show _ ≤ (0 + cpN); omega)) (by show 0 + cpN ≤ (0 + cpN); omega)
  obtain ⟨b438, g438⟩ : ∃ z, z = h0.size := ⟨_, rfl⟩
  rw [← g438] at A438 st438
  have g_b438 : n0 ≤ b438 := Nat.le_trans (own_old O0) (Nat.le_of_eq g438.symm)
  have sz_b438 : h0.size ≤ b438 := Nat.le_trans (Keep.refl h0 []).1 (Nat.le_of_eq g438.symm)
  have ne_r0_b438 : r0 ≠ b438 := Nat.ne_of_lt (Nat.lt_of_lt_of_le V_r0.lt (Nat.le_of_eq g438.symm))
  have O438 : Old Z n0 h438 := O0.ext E438
  have K438 : Keep h0 h438 [] := (Keep.refl h0 []).ext E438
  have V_b438 : Arj Z h438 b438 k438 p1 (fun _ => (0 : Int64)) := Arj.new A438 as1
  have c439 := (V_r0.ext E438)
  obtain ⟨cl440, Ar440, qa440, Sa440, Ma440, Ha440, Ga440⟩ := id c439
  obtain ⟨_, _, ⟨T441, L441, k441, n441⟩, -, X441, ⟨Lc441, hQ441, l441, y441, z441⟩, st441⟩ := Jvm.LawKit.callS X438 hx (y := Y15) hown (mvT hZ (hw _ (tk 81 rfl))) (mvT hZ (hw _ (tk 82 rfl))) (mvT hZ (hw _ (tk 75 rfl))) (mvT hZ (hw _ (tk 83 rfl))) (by first | decide | exact Nat.le_of_ble_eq_true rfl | (show _ ≤ (0 + cpN); omega)) (backOf (W := 4) (rm15 l Z a0 hw hv [] w_1 w_2 hS0 x_r0_n p1 h438 n0 O438) hZ (hw _ (tk 83 rfl)) (hw _ (tk 75 rfl)) (by first | decide | exact Nat.le_of_ble_eq_true rfl | (show _ ≤ (0 + cpN); omega)) (by first | decide | exact Nat.le_of_ble_eq_true rfl | (show _ ≤ (0 + cpN); omega))) (g := (mkF m 25 (lt10 r0 p1 b438) [(.int p1), (.int x_r0_n), (.int (0 : Int32)), (.ref b438), (.int (0 : Int32)), (.ref r0)])) rfl (by rw [hml]; rfl) (argsL := [(.int x_r0_n), (.int p1)]) (rest := [(.int (0 : Int32)), (.ref b438), (.int (0 : Int32)), (.ref r0)]) (lenOf pd_3 rfl) rfl (by show 2 * 0 + _ ≤ _; exact Nat.le_of_eq rfl) (hb hby d14_25) (fun _ _ => ⟨rfl, e438, (by first | decide | exact Nat.le_of_ble_eq_true rfl | (show _ ≤ (0 + cpN); omega) : 1 + 0 ≤ _), (by show (0 + cpN) + 0 ≤ (0 + cpN); omega)⟩)
  dsimp only [Pt.U, Pt.locs, Pt.cells, Pt.slots] at X441 l441 y441 z441 st441 hQ441
  subst l441 y441 z441
  obtain ⟨rv441, N441q, e441⟩ := hQ441
  rw [show sp15 x_r0_n p1 = x_r0_n from by unfold sp15; rw [if_neg as2]] at rv441
  subst rv441
  have N441 := Fr.app N0 N441q
  obtain ⟨T442, h442, L442, X442, e442, N442, K442c, Va442, st442⟩ := own_cpJ X441 hx hZ hown (hw _ (tk 84 rfl)) (hw _ (tk 87 rfl)) (hw _ (tk 85 rfl)) (hw _ (tk 86 rfl)) e441 c439 V_b438 as2 N441 g_b438 (g := (mkF m 28 (lt10 r0 p1 b438) [(.int x_r0_n), (.int (0 : Int32)), (.ref b438), (.int (0 : Int32)), (.ref r0)])) rfl (by rw [hml]; rfl) rfl (hb hby d14_28) (by first | decide | exact Nat.le_of_ble_eq_true rfl | (show _ ≤ (0 + cpN); omega)) (W := 0) (by show 2 * 0 + _ ≤ _; exact Nat.le_of_eq rfl) (by first | decide | exact Nat.le_of_ble_eq_true rfl | (show _ ≤ (0 + cpN); omega))
  have O442 : Old Z n0 h442 := O438.keep K442c (allS g_b438 all0)
  have K442 : Keep h0 h442 [] := K438.trans K442c (allS (Or.inr sz_b438) all0)
  have Vb442 : Arj Z h442 b438 k438 p1 (ovF x_r0_F (x_r0_n).toNatClampNeg (fun _ => (0 : Int64))) := Va442
  obtain ⟨fs, hr, hrun, hended, hW, hsame⟩ := X442.leave (v := some (.ref b438)) (fun h => by rw [Bd.returns] at h; cases h)
  refine ⟨_, _, pre0 _ ?_, hrun, hended, _, _, rfl, ?_, ⟨_, rfl⟩, hW, hsame.mono (by first | decide | exact Nat.le_of_ble_eq_true rfl | (show _ ≤ (0 + cpN); omega)) (by show (0 + cpN) ≤ (0 + cpN); omega)⟩
  · show Sp p e below s₁ (mkF m 0 (lt7 r0 p1) []) _
    refine XS.iloadN X0.here hx rfl (hb hby d14_0) rfl ?_
    refine XS.aloadN X0.here hx rfl (hb hby d14_1) rfl rfl ?_
    show Sp p e below s₁ (mkF m 2 (lt7 r0 p1) [(.ref r0), (.int p1)]) _
    refine X0.arraylength hx (by rw [e0]; exact Ar437.1) (State.isArrayOf_alike hZ.alike Ar437.2.1) (g := (mkF m 2 (lt7 r0 p1) [(.ref r0), (.int p1)])) rfl rfl (hb hby d14_2) _ ?_
    rw [len_of Sa437 Ma437]
    show Sp p e below s₁ (mkF m 3 (lt7 r0 p1) [(.int x_r0_n), (.int p1)]) _
    refine XS.icmpYes X0.here hx rfl (pc0 := 3) (pc' := 14) rfl (hb hby d14_3) rfl (feq as0).2 (by first | decide | exact Nat.le_of_ble_eq_true rfl | (show _ ≤ (0 + cpN); omega)) (by first | decide | exact Nat.le_of_ble_eq_true rfl | (show _ ≤ (0 + cpN); omega)) ?_
    show Sp p e below s₁ (mkF m 14 (lt7 r0 p1) []) _
    refine XS.iloadN X0.here hx rfl (hb hby d14_14) rfl ?_
    show Sp p e below s₁ (mkF m 15 (lt7 r0 p1) [(.int p1)]) _
    refine st438 _ ?_
    show Sp p e below T438 (mkF m 17 (lt7 r0 p1) [(.ref b438)]) _
    refine XS.astoreN X438.here hx rfl (hb hby d14_17) rfl rfl (l' := (lt10 r0 p1 b438)) rfl ?_
    refine XS.aloadN X438.here hx rfl (hb hby d14_18) rfl rfl ?_
    show Sp p e below T438 (mkF m 19 (lt10 r0 p1 b438) [(.ref r0)]) _
    refine XS.iconst X438.here hx rfl (hb hby d14_19) ?_
    refine XS.aloadN X438.here hx rfl (hb hby d14_20) rfl rfl ?_
    show Sp p e below T438 (mkF m 21 (lt10 r0 p1 b438) [(.ref b438), (.int (0 : Int32)), (.ref r0)]) _
    refine XS.iconst X438.here hx rfl (hb hby d14_21) ?_
    refine XS.aloadN X438.here hx rfl (hb hby d14_22) rfl rfl ?_
    show Sp p e below T438 (mkF m 23 (lt10 r0 p1 b438) [(.ref r0), (.int (0 : Int32)), (.ref b438), (.int (0 : Int32)), (.ref r0)]) _
    refine X438.arraylength hx (by rw [e438]; exact Ar440.1) (State.isArrayOf_alike hZ.alike Ar440.2.1) (g := (mkF m 23 (lt10 r0 p1 b438) [(.ref r0), (.int (0 : Int32)), (.ref b438), (.int (0 : Int32)), (.ref r0)])) rfl rfl (hb hby d14_23) _ ?_
    rw [len_of Sa440 Ma440]
    show Sp p e below T438 (mkF m 24 (lt10 r0 p1 b438) [(.int x_r0_n), (.int (0 : Int32)), (.ref b438), (.int (0 : Int32)), (.ref r0)]) _
    refine XS.iloadN X438.here hx rfl (hb hby d14_24) rfl ?_
    show Sp p e below T438 (mkF m 25 (lt10 r0 p1 b438) [(.int p1), (.int x_r0_n), (.int (0 : Int32)), (.ref b438), (.int (0 : Int32)), (.ref r0)]) _
    refine st441 _ ?_
    show Sp p e below T441 (mkF m 28 (lt10 r0 p1 b438) [(.int x_r0_n), (.int (0 : Int32)), (.ref b438), (.int (0 : Int32)), (.ref r0)]) _
    refine st442 _ ?_
    show Sp p e below T442 (mkF m 31 (lt10 r0 p1 b438) []) _
    refine XS.aloadN X442.here hx rfl (hb hby d14_31) rfl rfl ?_
    show Sp p e below T442 (mkF m 32 (lt10 r0 p1 b438) [(.ref b438)]) _
    jvm_step X442.here [X442.here.top, hx, (hb hby d14_32), X442.method', Bd.returns, Value.isRef, FieldType.isReference]
    first | (intro acts; rw [hr _ acts rfl rfl rfl]) | rw [hr _ _ rfl rfl rfl]
    exact Steps.refl _
  · show Q14x1 Z w_1 w_2 r0 p1 k_r0 x_r0_n x_r0_F cpN h0 n0 _ T442.heap _
    rw [e442]
    exact ⟨b438, k438, rfl, N442, O442, K442, g_b438, sz_b438, Vb442⟩
theorem pn_8x1 : plainName "java/util/BitSet" = true := by first | (simp [plainName, overriddenIn]; done) | decide +kernel
theorem ef_8x1 (m : MethodId) (r0 : Addr) (p1 : Int32) : entryFrame m #[(.ref r0), (.int p1)] 3 = mkF m 0 #[.val (.ref r0), .val (.int p1), .unset] [] := by first | (simp [entryFrame, mkF, argsToLocals, Value.category]; done) | rfl
def Q8x1 (Z : State) (w_1 : Addr) (w_2 : Addr) (r0 : Addr) (p1 : Int32) (r0_f3 : Addr) (x_r0_f4 : Int32) (k_r0_f3 : ClassId) (x_r0_f3_n : Int32) (x_r0_f3_F : Nat → Int64) (cpN : Nat) (h0 : Heap) (n0 : Nat) (v : Option Value) (h : Heap) (L : List Loc) : Prop := ∃ (b444 : Addr) (k445 : ClassId), v = none ∧ Fr n0 L ∧ Old Z n0 h ∧ Keep h0 h [r0] ∧ Fld Z h r0 "java/util/BitSet" "sizeIsSticky" "Z" (.int (0 : Int32)) ∧ Fld Z h r0 "java/util/BitSet" "words" "[J" (.ref b444) ∧ Fld Z h r0 "java/util/BitSet" "wordsInUse" "I" (.int x_r0_f4) ∧ n0 ≤ b444 ∧ h0.size ≤ b444 ∧ Arj Z h b444 k445 p1 (ovF x_r0_f3_F (x_r0_f3_n).toNatClampNeg (fun _ => (0 : Int64)))
set_option maxRecDepth 65536 in
set_option maxHeartbeats 40000000 in
theorem rm8x1 (l : Launch) (Z : State) (a0 : Array Value) (hw : ∀ d ∈ tables_1, d.before a0 Z = true) (hv : ∀ d ∈ jdkStatics_1, d.before a0 Z = true) (ws : List Jvm.Cond) (w_1 : Addr) (w_2 : Addr) (hS : StF Z w_1 w_2) (r0 : Addr) (p1 : Int32) (r0_f3 : Addr) (x_r0_f4 : Int32) (k_r0_f3 : ClassId) (x_r0_f3_n : Int32) (x_r0_f3_F : Nat → Int64) (cpN : Nat) (h0 : Heap) (n0 : Nat) (O0 : Old Z n0 h0) (g_r0 : n0 ≤ r0) (g_r0_f3 : n0 ≤ r0_f3) (E_r0 : Exa Z h0 r0 "java/util/BitSet") (F_sizeIsSticky_r0 : Fld Z h0 r0 "java/util/BitSet" "sizeIsSticky" "Z" (.int (0 : Int32))) (F_words_r0 : Fld Z h0 r0 "java/util/BitSet" "words" "[J" (.ref r0_f3)) (F_wordsInUse_r0 : Fld Z h0 r0 "java/util/BitSet" "wordsInUse" "I" (.int x_r0_f4)) (V_r0_f3 : Arj Z h0 r0_f3 k_r0_f3 x_r0_f3_n x_r0_f3_F) (ne_r0_r0_f3 : r0 ≠ r0_f3) (as0 : (x_r0_f3_n < p1)) (as1 : (((2 : Int32) * x_r0_f3_n) < p1)) (as2 : ¬ (p1 = x_r0_f3_n)) (as3 : ¬ (p1 < (0 : Int32))) (as4 : ¬ (p1 < x_r0_f3_n)) (hcp : (p1).toNatClampNeg ≤ cpN) (hcb : cpN * 8 ≤ 536870912) :
    MetFree l Y17 (head1 (Jvm.Cond.code Y17 jdk_92_method_14_code 3 none :: ws) ({ frames := 2, cells := 1, slots := (0 + (0 + cpN)), locals := 33 } : Room)) (fun a U => a = #[(.ref r0), (.int p1)] ∧ Z.Warmed39 U.vm ∧ U.heap = h0) (fun _ _ _ _ _ => True) (fun _ U o U' => ∃ v L, o = .returned v ∧ Q8x1 Z w_1 w_2 r0 p1 r0_f3 x_r0_f4 k_r0_f3 x_r0_f3_n x_r0_f3_F cpN h0 n0 v U'.heap L ∧ FrameEnd U o U' L ({ frames := 2, cells := 1, slots := (0 + (0 + cpN)), locals := 33 } : Room).cells ({ frames := 2, cells := 1, slots := (0 + (0 + cpN)), locals := 33 } : Room).slots) := by
  refine MetFree.of_bodySF (plainFor_of_name pn_8x1) hisR ?_
  intro p e s m args below meth c s₁ Bd hml0 hP hK
  obtain ⟨rfl, hZ, hh⟩ := hP
  have hx := Bd.exec
  have hby := Bd.bytes
  have hml : c.maxLocals = 3 := hml0
  have hown : s.vm.findClass "java/util/BitSet" = some m.cls := findClass_of_methodNamed Bd.named
  have hnm := (name_of_methodNamed Bd.named Bd.method).1
  have X0 : Stand p l e ({ frames := 2, cells := 1, slots := (0 + (0 + cpN)), locals := 33 } : Room) s m #[(.ref r0), (.int p1)] below meth c s₁ [] 0 0 := Stand.of_body Bd
  have e0 : s₁.heap = h0 := by rw [← hh, Bd.state]; rfl
  have N0 := Fr.nil n0
  have hS0 := hS
  obtain ⟨S_1, E_1, S_2, E_2, S_3⟩ := hS
  have pre0 : ∀ t, Steps p.tables e below (s₁.setTop (mkF m 0 #[.val (.ref r0), .val (.int p1), .unset] [])) t → Steps p.tables e below (s₁.setTop (entryFrame m #[(.ref r0), (.int p1)] 3)) t := fun t k => castTop (ef_8x1 m r0 p1) k
  generalize hE0 : s₁.setTop (entryFrame m #[(.ref r0), (.int p1)] 3) = E0 at pre0 ⊢
  obtain ⟨T425, X425, e425, st425⟩ := getF X0 hx hZ hown (host := "") (Or.inl (hw _ (tk 29 rfl))) Via.refl e0 F_words_r0 (g := (mkF m 1 (lt7 r0 p1) [(.ref r0)])) rfl rfl (hb hby d8_1)
  obtain ⟨cl426, Ar426, qa426, Sa426, Ma426, Ha426, Ga426⟩ := id V_r0_f3
  obtain ⟨T427, X427, e427, st427⟩ := getF X425 hx hZ hown (host := "") (Or.inl (hw _ (tk 29 rfl))) Via.refl e425 F_words_r0 (g := (mkF m 11 (lt7 r0 p1) [(.ref r0), (.int (2 : Int32))])) rfl rfl (hb hby d8_11)
  obtain ⟨cl428, Ar428, qa428, Sa428, Ma428, Ha428, Ga428⟩ := id V_r0_f3
  obtain ⟨_, _, ⟨T429, L429, k429, n429⟩, -, X429, ⟨Lc429, hQ429, l429, y429, z429⟩, st429⟩ := Jvm.LawKit.callS X427 hx (y := Y13) hown (mvT hZ (hw _ (tk 73 rfl))) (mvT hZ (hw _ (tk 74 rfl))) (mvT hZ (hw _ (tk 75 rfl))) (mvT hZ (hw _ (tk 76 rfl))) (by first | decide | exact Nat.le_of_ble_eq_true rfl | (show _ ≤ (0 + (0 + cpN)); omega)) (backOf (W := 0) (rm13 l Z a0 hw hv [] w_1 w_2 hS0 ((2 : Int32) * x_r0_f3_n) p1 h0 n0 O0) hZ (hw _ (tk 76 rfl)) (hw _ (tk 75 rfl)) (by first | decide | exact Nat.le_of_ble_eq_true rfl | (show _ ≤ (0 + (0 + cpN)); omega)) (by first | decide | exact Nat.le_of_ble_eq_true rfl | (show _ ≤ (0 + (0 + cpN)); omega))) (g := (mkF m 17 (lt7 r0 p1) [(.int p1), (.int ((2 : Int32) * x_r0_f3_n))])) rfl (by rw [hml]; rfl) (argsL := [(.int ((2 : Int32) * x_r0_f3_n)), (.int p1)]) (rest := []) (lenOf pd_3 rfl) rfl (by show 2 * 0 + _ ≤ _; exact Nat.le_of_eq rfl) (hb hby d8_17) (fun _ _ => ⟨rfl, e427, (by first | decide | exact Nat.le_of_ble_eq_true rfl | (show _ ≤ (0 + (0 + cpN)); omega) : 0 + 0 ≤ _), (by first | decide | exact Nat.le_of_ble_eq_true rfl | (show _ ≤ (0 + (0 + cpN)); omega) : 0 + 0 ≤ _)⟩)
  dsimp only [Pt.U, Pt.locs, Pt.cells, Pt.slots] at X429 l429 y429 z429 st429 hQ429
  subst l429 y429 z429
  obtain ⟨rv429, N429q, e429⟩ := hQ429
  rw [show sp13 ((2 : Int32) * x_r0_f3_n) p1 = p1 from by unfold sp13; rw [if_pos as1]] at rv429
  subst rv429
  have N429 := Fr.app N0 N429q
  obtain ⟨T430, X430, e430, st430⟩ := getF X429 hx hZ hown (host := "") (Or.inl (hw _ (tk 29 rfl))) Via.refl e429 F_words_r0 (g := (mkF m 23 (lt8 r0 p1 p1) [(.ref r0), (.ref r0)])) rfl rfl (hb hby d8_23)
  obtain ⟨_, _, ⟨T443, L443, k443, n443⟩, -, X443, ⟨Lc443, hQ443, l443, y443, z443⟩, st443⟩ := Jvm.LawKit.callS X430 hx (y := Y16) hown (mvT hZ (hw _ (tk 77 rfl))) (mvT hZ (hw _ (tk 78 rfl))) (mvT hZ (hw _ (tk 79 rfl))) (mvT hZ (hw _ (tk 80 rfl))) (by first | decide | exact Nat.le_of_ble_eq_true rfl | (show _ ≤ (0 + (0 + cpN)); omega)) (backOf (W := 1) (rm14x1 l Z a0 hw hv [] w_1 w_2 hS0 r0_f3 p1 k_r0_f3 x_r0_f3_n x_r0_f3_F cpN h0 n0 O0 g_r0_f3 V_r0_f3 as2 as3 as4 hcp hcb) hZ (hw _ (tk 80 rfl)) (hw _ (tk 79 rfl)) (by first | decide | exact Nat.le_of_ble_eq_true rfl | (show _ ≤ (0 + (0 + cpN)); omega)) (by first | decide | exact Nat.le_of_ble_eq_true rfl | (show _ ≤ (0 + (0 + cpN)); omega))) (g := (mkF m 27 (lt8 r0 p1 p1) [(.int p1), (.ref r0_f3), (.ref r0)])) rfl (by rw [hml]; rfl) (argsL := [(.ref r0_f3), (.int p1)]) (rest := [(.ref r0)]) (lenOf pd_4 rfl) rfl (by show 2 * 0 + _ ≤ _; exact Nat.le_of_eq rfl) (hb hby d8_27) (fun _ _ => ⟨rfl, e430, (by first | decide | exact Nat.le_of_ble_eq_true rfl | (show _ ≤ (0 + (0 + cpN)); omega) : 0 + 1 ≤ _), (by show 0 + (0 + cpN) ≤ (0 + (0 + cpN)); omega)⟩)
  dsimp only [Pt.U, Pt.locs, Pt.cells, Pt.slots] at X443 l443 y443 z443 st443 hQ443
  subst l443 y443 z443
  obtain ⟨b444, k445, rv443, N443q, O443, K443c, Fx443_0, Fx443_1, Fx443_2⟩ := hQ443
  subst rv443
  have N443 := Fr.app N429 N443q
  have K443 : Keep h0 T443.heap [r0] := (Keep.refl h0 [r0]).trans K443c all0
  have g_b444 := Fx443_0
  have sz_b444 : h0.size ≤ b444 := Nat.le_trans (Keep.refl h0 [r0]).1 Fx443_1
  have ne_r0_b444 : r0 ≠ b444 := Nat.ne_of_lt (Nat.lt_of_lt_of_le E_r0.lt Fx443_1)
  have ne_r0_f3_b444 : r0_f3 ≠ b444 := Nat.ne_of_lt (Nat.lt_of_lt_of_le V_r0_f3.lt Fx443_1)
  have c446 := (E_r0.keep K443c)
  have c447 := (F_words_r0.keep K443c nin0)
  obtain ⟨T448, h448, X448, e448, W448, st448⟩ := putF X443 hx hZ hown (host := "") (Or.inl (hw _ (tk 29 rfl))) Via.refl rfl c447 c446 (Or.inl (hw _ (tk 30 rfl))) (hw _ (tk 10 rfl)) (ty := (.array .long)) (by first | decide | exact Nat.le_of_ble_eq_true rfl | (show _ ≤ (0 + (0 + cpN)); omega)) rfl rfl (g := (mkF m 30 (lt8 r0 p1 p1) [(.ref b444), (.ref r0)])) rfl rfl (hb hby d8_30)
  have Fw448 := c447.same W448
  have O448 : Old Z n0 h448 := O443.wr W448 g_r0
  have N448 := Fr.snoc X448 N443 g_r0
  have K448 : Keep h0 h448 [r0] := K443.wr W448 (Or.inl (List.mem_of_getElem? (i := 0) rfl))
  have c449 := (c446.wr W448)
  have c450 := ((F_sizeIsSticky_r0.keep K443c nin0).other W448 (Or.inr (slot_ne (Or.inl (hw _ (tk 19 rfl))) (Or.inl (hw _ (tk 30 rfl))) (by first | decide | exact Nat.le_of_ble_eq_true rfl | (show _ ≤ (0 + (0 + cpN)); omega)) (t := .boolean) (t' := (.array .long)) (by first | decide | exact Nat.le_of_ble_eq_true rfl | (show _ ≤ (0 + (0 + cpN)); omega)) (by first | decide | exact Nat.le_of_ble_eq_true rfl | (show _ ≤ (0 + (0 + cpN)); omega)))))
  obtain ⟨T451, h451, X451, e451, W451, st451⟩ := putFN X448 hx hZ hown (hw _ (tk 18 rfl)) Via.refl e448 c450 c449 (Or.inl (hw _ (tk 19 rfl))) (hw _ (tk 10 rfl)) (ty := .boolean) (v' := (.int (0 : Int32))) (by first | decide | exact Nat.le_of_ble_eq_true rfl | (show _ ≤ (0 + (0 + cpN)); omega)) rfl (by first | decide | exact Nat.le_of_ble_eq_true rfl | (show _ ≤ (0 + (0 + cpN)); omega)) (g := (mkF m 35 (lt8 r0 p1 p1) [(.int (0 : Int32)), (.ref r0)])) rfl rfl (hb hby d8_35)
  have Fw451 := c450.same W451
  have O451 : Old Z n0 h451 := O448.wr W451 g_r0
  have N451 := Fr.snoc X451 N448 g_r0
  have K451 : Keep h0 h451 [r0] := K448.wr W451 (Or.inl (List.mem_of_getElem? (i := 0) rfl))
  obtain ⟨fs, hr, hrun, hended, hW, hsame⟩ := X451.leave (v := none) (fun _ => rfl)
  have c452 := ((Fx443_2.other W448 (Ne.symm ne_r0_b444)).other W451 (Ne.symm ne_r0_b444))
  have c453 := (Fw448.other W451 (Or.inr (slot_ne (Or.inl (hw _ (tk 30 rfl))) (Or.inl (hw _ (tk 19 rfl))) (by first | decide | exact Nat.le_of_ble_eq_true rfl | (show _ ≤ (0 + (0 + cpN)); omega)) (t := (.array .long)) (t' := .boolean) (by first | decide | exact Nat.le_of_ble_eq_true rfl | (show _ ≤ (0 + (0 + cpN)); omega)) (by first | decide | exact Nat.le_of_ble_eq_true rfl | (show _ ≤ (0 + (0 + cpN)); omega)))))
  have c454 := (((F_wordsInUse_r0.keep K443c nin0).other W448 (Or.inr (slot_ne (Or.inl (hw _ (tk 17 rfl))) (Or.inl (hw _ (tk 30 rfl))) (by first | decide | exact Nat.le_of_ble_eq_true rfl | (show _ ≤ (0 + (0 + cpN)); omega)) (t := .int) (t' := (.array .long)) (by first | decide | exact Nat.le_of_ble_eq_true rfl | (show _ ≤ (0 + (0 + cpN)); omega)) (by first | decide | exact Nat.le_of_ble_eq_true rfl | (show _ ≤ (0 + (0 + cpN)); omega))))).other W451 (Or.inr (slot_ne (Or.inl (hw _ (tk 17 rfl))) (Or.inl (hw _ (tk 19 rfl))) (by first | decide | exact Nat.le_of_ble_eq_true rfl | (show _ ≤ (0 + (0 + cpN)); omega)) (t := .int) (t' := .boolean) (by first | decide | exact Nat.le_of_ble_eq_true rfl | (show _ ≤ (0 + (0 + cpN)); omega)) (by first | decide | exact Nat.le_of_ble_eq_true rfl | (show _ ≤ (0 + (0 + cpN)); omega)))))
  refine ⟨_, _, pre0 _ ?_, hrun, hended, _, _, rfl, ?_, ⟨_, rfl⟩, hW, hsame.mono (by first | decide | exact Nat.le_of_ble_eq_true rfl | (show _ ≤ (0 + (0 + cpN)); omega)) (by show (0 + (0 + cpN)) ≤ (0 + (0 + cpN)); omega)⟩
  · show Sp p e below s₁ (mkF m 0 (lt7 r0 p1) []) _
    refine XS.aloadN X0.here hx rfl (hb hby d8_0) rfl rfl ?_
    show Sp p e below s₁ (mkF m 1 (lt7 r0 p1) [(.ref r0)]) _
    refine st425 _ ?_
    show Sp p e below T425 (mkF m 4 (lt7 r0 p1) [(.ref r0_f3)]) _
    refine X425.arraylength hx (by rw [e425]; exact Ar426.1) (State.isArrayOf_alike hZ.alike Ar426.2.1) (g := (mkF m 4 (lt7 r0 p1) [(.ref r0_f3)])) rfl rfl (hb hby d8_4) _ ?_
    rw [len_of Sa426 Ma426]
    show Sp p e below T425 (mkF m 5 (lt7 r0 p1) [(.int x_r0_f3_n)]) _
    refine XS.iloadN X425.here hx rfl (hb hby d8_5) rfl ?_
    show Sp p e below T425 (mkF m 6 (lt7 r0 p1) [(.int p1), (.int x_r0_f3_n)]) _
    refine XS.icmpNo X425.here hx rfl (hb hby d8_6) rfl (tlt as0).2.1 ?_
    show Sp p e below T425 (mkF m 9 (lt7 r0 p1) []) _
    refine XS.iconst X425.here hx rfl (hb hby d8_9) ?_
    refine XS.aloadN X425.here hx rfl (hb hby d8_10) rfl rfl ?_
    show Sp p e below T425 (mkF m 11 (lt7 r0 p1) [(.ref r0), (.int (2 : Int32))]) _
    refine st427 _ ?_
    show Sp p e below T427 (mkF m 14 (lt7 r0 p1) [(.ref r0_f3), (.int (2 : Int32))]) _
    refine X427.arraylength hx (by rw [e427]; exact Ar428.1) (State.isArrayOf_alike hZ.alike Ar428.2.1) (g := (mkF m 14 (lt7 r0 p1) [(.ref r0_f3), (.int (2 : Int32))])) rfl rfl (hb hby d8_14) _ ?_
    rw [len_of Sa428 Ma428]
    show Sp p e below T427 (mkF m 15 (lt7 r0 p1) [(.int x_r0_f3_n), (.int (2 : Int32))]) _
    refine XS.imul X427.here hx rfl (hb hby d8_15) rfl ?_
    refine XS.iloadN X427.here hx rfl (hb hby d8_16) rfl ?_
    show Sp p e below T427 (mkF m 17 (lt7 r0 p1) [(.int p1), (.int ((2 : Int32) * x_r0_f3_n))]) _
    refine st429 _ ?_
    show Sp p e below T429 (mkF m 20 (lt7 r0 p1) [(.int p1)]) _
    refine XS.istoreN X429.here hx rfl (hb hby d8_20) rfl (l' := (lt8 r0 p1 p1)) rfl ?_
    refine XS.aloadN X429.here hx rfl (hb hby d8_21) rfl rfl ?_
    show Sp p e below T429 (mkF m 22 (lt8 r0 p1 p1) [(.ref r0)]) _
    refine XS.aloadN X429.here hx rfl (hb hby d8_22) rfl rfl ?_
    show Sp p e below T429 (mkF m 23 (lt8 r0 p1 p1) [(.ref r0), (.ref r0)]) _
    refine st430 _ ?_
    show Sp p e below T430 (mkF m 26 (lt8 r0 p1 p1) [(.ref r0_f3), (.ref r0)]) _
    refine XS.iloadN X430.here hx rfl (hb hby d8_26) rfl ?_
    show Sp p e below T430 (mkF m 27 (lt8 r0 p1 p1) [(.int p1), (.ref r0_f3), (.ref r0)]) _
    refine st443 _ ?_
    show Sp p e below T443 (mkF m 30 (lt8 r0 p1 p1) [(.ref b444), (.ref r0)]) _
    refine st448 _ ?_
    show Sp p e below T448 (mkF m 33 (lt8 r0 p1 p1) []) _
    refine XS.aloadN X448.here hx rfl (hb hby d8_33) rfl rfl ?_
    refine XS.iconst X448.here hx rfl (hb hby d8_34) ?_
    show Sp p e below T448 (mkF m 35 (lt8 r0 p1 p1) [(.int (0 : Int32)), (.ref r0)]) _
    refine st451 _ ?_
    show Sp p e below T451 (mkF m 38 (lt8 r0 p1 p1) []) _
    exact X451.returnOut hx Bd.returns (hb hby d8_38) hr
  · show Q8x1 Z w_1 w_2 r0 p1 r0_f3 x_r0_f4 k_r0_f3 x_r0_f3_n x_r0_f3_F cpN h0 n0 _ T451.heap _
    rw [e451]
    exact ⟨b444, k445, rfl, N451, O451, K451, Fw451, c453, c454, g_b444, sz_b444, c452⟩
theorem pn_7x1 : plainName "java/util/BitSet" = true := by first | (simp [plainName, overriddenIn]; done) | decide +kernel
theorem ef_7x1 (m : MethodId) (r0 : Addr) (p1 : Int32) : entryFrame m #[(.ref r0), (.int p1)] 3 = mkF m 0 #[.val (.ref r0), .val (.int p1), .unset] [] := by first | (simp [entryFrame, mkF, argsToLocals, Value.category]; done) | rfl
def Q7x1 (Z : State) (w_1 : Addr) (w_2 : Addr) (r0 : Addr) (p1 : Int32) (r0_f3 : Addr) (x_r0_f4 : Int32) (k_r0_f3 : ClassId) (x_r0_f3_n : Int32) (x_r0_f3_F : Nat → Int64) (cpN : Nat) (h0 : Heap) (n0 : Nat) (v : Option Value) (h : Heap) (L : List Loc) : Prop := ∃ (b456 : Addr) (k457 : ClassId), v = none ∧ Fr n0 L ∧ Old Z n0 h ∧ Keep h0 h [r0] ∧ Fld Z h r0 "java/util/BitSet" "sizeIsSticky" "Z" (.int (0 : Int32)) ∧ Fld Z h r0 "java/util/BitSet" "words" "[J" (.ref b456) ∧ Fld Z h r0 "java/util/BitSet" "wordsInUse" "I" (.int (p1 + (1 : Int32))) ∧ n0 ≤ b456 ∧ h0.size ≤ b456 ∧ Arj Z h b456 k457 (p1 + (1 : Int32)) (ovF x_r0_f3_F (x_r0_f3_n).toNatClampNeg (fun _ => (0 : Int64)))
set_option maxRecDepth 65536 in
set_option maxHeartbeats 40000000 in
theorem rm7x1 (l : Launch) (Z : State) (a0 : Array Value) (hw : ∀ d ∈ tables_1, d.before a0 Z = true) (hv : ∀ d ∈ jdkStatics_1, d.before a0 Z = true) (ws : List Jvm.Cond) (w_1 : Addr) (w_2 : Addr) (hS : StF Z w_1 w_2) (r0 : Addr) (p1 : Int32) (r0_f3 : Addr) (x_r0_f4 : Int32) (k_r0_f3 : ClassId) (x_r0_f3_n : Int32) (x_r0_f3_F : Nat → Int64) (cpN : Nat) (h0 : Heap) (n0 : Nat) (O0 : Old Z n0 h0) (g_r0 : n0 ≤ r0) (g_r0_f3 : n0 ≤ r0_f3) (E_r0 : Exa Z h0 r0 "java/util/BitSet") (F_sizeIsSticky_r0 : Fld Z h0 r0 "java/util/BitSet" "sizeIsSticky" "Z" (.int (0 : Int32))) (F_words_r0 : Fld Z h0 r0 "java/util/BitSet" "words" "[J" (.ref r0_f3)) (F_wordsInUse_r0 : Fld Z h0 r0 "java/util/BitSet" "wordsInUse" "I" (.int x_r0_f4)) (V_r0_f3 : Arj Z h0 r0_f3 k_r0_f3 x_r0_f3_n x_r0_f3_F) (ne_r0_r0_f3 : r0 ≠ r0_f3) (as0 : (x_r0_f4 < (p1 + (1 : Int32)))) (as1 : (x_r0_f3_n < (p1 + (1 : Int32)))) (as2 : (((2 : Int32) * x_r0_f3_n) < (p1 + (1 : Int32)))) (as3 : ¬ ((p1 + (1 : Int32)) = x_r0_f3_n)) (as4 : ¬ ((p1 + (1 : Int32)) < (0 : Int32))) (as5 : ¬ ((p1 + (1 : Int32)) < x_r0_f3_n)) (hcp : ((p1 + (1 : Int32))).toNatClampNeg ≤ cpN) (hcb : cpN * 8 ≤ 536870912) :
    MetFree l Y18 (head1 (Jvm.Cond.code Y18 jdk_92_method_15_code 3 none :: ws) ({ frames := 3, cells := 1, slots := (0 + (0 + (0 + cpN))), locals := 47 } : Room)) (fun a U => a = #[(.ref r0), (.int p1)] ∧ Z.Warmed39 U.vm ∧ U.heap = h0) (fun _ _ _ _ _ => True) (fun _ U o U' => ∃ v L, o = .returned v ∧ Q7x1 Z w_1 w_2 r0 p1 r0_f3 x_r0_f4 k_r0_f3 x_r0_f3_n x_r0_f3_F cpN h0 n0 v U'.heap L ∧ FrameEnd U o U' L ({ frames := 3, cells := 1, slots := (0 + (0 + (0 + cpN))), locals := 47 } : Room).cells ({ frames := 3, cells := 1, slots := (0 + (0 + (0 + cpN))), locals := 47 } : Room).slots) := by
  refine MetFree.of_bodySF (plainFor_of_name pn_7x1) hisR ?_
  intro p e s m args below meth c s₁ Bd hml0 hP hK
  obtain ⟨rfl, hZ, hh⟩ := hP
  have hx := Bd.exec
  have hby := Bd.bytes
  have hml : c.maxLocals = 3 := hml0
  have hown : s.vm.findClass "java/util/BitSet" = some m.cls := findClass_of_methodNamed Bd.named
  have hnm := (name_of_methodNamed Bd.named Bd.method).1
  have X0 : Stand p l e ({ frames := 3, cells := 1, slots := (0 + (0 + (0 + cpN))), locals := 47 } : Room) s m #[(.ref r0), (.int p1)] below meth c s₁ [] 0 0 := Stand.of_body Bd
  have e0 : s₁.heap = h0 := by rw [← hh, Bd.state]; rfl
  have N0 := Fr.nil n0
  have hS0 := hS
  obtain ⟨S_1, E_1, S_2, E_2, S_3⟩ := hS
  have pre0 : ∀ t, Steps p.tables e below (s₁.setTop (mkF m 0 #[.val (.ref r0), .val (.int p1), .unset] [])) t → Steps p.tables e below (s₁.setTop (entryFrame m #[(.ref r0), (.int p1)] 3)) t := fun t k => castTop (ef_7x1 m r0 p1) k
  generalize hE0 : s₁.setTop (entryFrame m #[(.ref r0), (.int p1)] 3) = E0 at pre0 ⊢
  obtain ⟨T391, X391, e391, st391⟩ := getF X0 hx hZ hown (host := "") (Or.inl (hw _ (tk 16 rfl))) Via.refl e0 F_wordsInUse_r0 (g := (mkF m 5 (lt8 r0 p1 (p1 + (1 : Int32))) [(.ref r0)])) rfl rfl (hb hby d7_5)
  obtain ⟨cq455, q455, q455'⟩ := E_r0.cell
  obtain ⟨_, _, ⟨T455, L455, k455, n455⟩, -, X455, ⟨Lc455, hQ455, l455, y455, z455⟩, st455⟩ := X391.privateBack hx (y := Y17) hown (mvT hZ (hw _ (tk 46 rfl))) (mvT hZ (hw _ (tk 47 rfl))) (mvT hZ (hw _ (tk 49 rfl))) (Cond.privateMethod_at (mvP hZ (hw _ (tk 48 rfl)) (args := #[]))) (mvT hZ (hw _ (tk 50 rfl))) (by first | decide | exact Nat.le_of_ble_eq_true rfl | (show _ ≤ (0 + (0 + (0 + cpN))); omega)) (backOf (W := 0) (rm8x1 l Z a0 hw hv [] w_1 w_2 hS0 r0 (p1 + (1 : Int32)) r0_f3 x_r0_f4 k_r0_f3 x_r0_f3_n x_r0_f3_F cpN h0 n0 O0 g_r0 g_r0_f3 E_r0 F_sizeIsSticky_r0 F_words_r0 F_wordsInUse_r0 V_r0_f3 ne_r0_r0_f3 as1 as2 as3 as4 as5 hcp hcb) hZ (hw _ (tk 50 rfl)) (hw _ (tk 11 rfl)) (by first | decide | exact Nat.le_of_ble_eq_true rfl | (show _ ≤ (0 + (0 + (0 + cpN))); omega)) (by first | decide | exact Nat.le_of_ble_eq_true rfl | (show _ ≤ (0 + (0 + (0 + cpN))); omega))) (g := (mkF m 14 (lt8 r0 p1 (p1 + (1 : Int32))) [(.int (p1 + (1 : Int32))), (.ref r0)])) rfl (by rw [hml]; rfl) (Steps.refl _) (a := r0) (by rw [e391]; exact q455) q455' (argsL := [(.int (p1 + (1 : Int32)))]) (rest := []) (lenOf pd_1 rfl) rfl (by show 2 * 0 + _ ≤ _; exact Nat.le_of_eq rfl) (hb hby d7_14) (fun _ _ => ⟨rfl, e391, (by first | decide | exact Nat.le_of_ble_eq_true rfl | (show _ ≤ (0 + (0 + (0 + cpN))); omega) : 0 + 1 ≤ _), (by show 0 + (0 + (0 + cpN)) ≤ (0 + (0 + (0 + cpN))); omega)⟩)
  dsimp only [Pt.U, Pt.locs, Pt.cells, Pt.slots] at X455 l455 y455 z455 st455 hQ455
  subst l455 y455 z455
  obtain ⟨b456, k457, rv455, N455q, O455, K455c, Fe455_0, Fe455_1, Fe455_2, Fx455_0, Fx455_1, Fx455_2⟩ := hQ455
  subst rv455
  have N455 := Fr.app N0 N455q
  have K455 : Keep h0 T455.heap [r0] := (Keep.refl h0 [r0]).trans K455c (allS (Or.inl (List.mem_of_getElem? (i := 0) rfl)) all0)
  have g_b456 := Fx455_0
  have sz_b456 : h0.size ≤ b456 := Nat.le_trans (Keep.refl h0 [r0]).1 Fx455_1
  have ne_r0_b456 : r0 ≠ b456 := Nat.ne_of_lt (Nat.lt_of_lt_of_le E_r0.lt Fx455_1)
  have ne_r0_f3_b456 : r0_f3 ≠ b456 := Nat.ne_of_lt (Nat.lt_of_lt_of_le V_r0_f3.lt Fx455_1)
  have c458 := (E_r0.keep K455c)
  obtain ⟨T459, h459, X459, e459, W459, st459⟩ := putF X455 hx hZ hown (host := "") (Or.inl (hw _ (tk 16 rfl))) Via.refl rfl Fe455_2 c458 (Or.inl (hw _ (tk 17 rfl))) (hw _ (tk 10 rfl)) (ty := .int) (by first | decide | exact Nat.le_of_ble_eq_true rfl | (show _ ≤ (0 + (0 + (0 + cpN))); omega)) rfl rfl (g := (mkF m 19 (lt8 r0 p1 (p1 + (1 : Int32))) [(.int (p1 + (1 : Int32))), (.ref r0)])) rfl rfl (hb hby d7_19)
  have Fw459 := Fe455_2.same W459
  have O459 : Old Z n0 h459 := O455.wr W459 g_r0
  have N459 := Fr.snoc X459 N455 g_r0
  have K459 : Keep h0 h459 [r0] := K455.wr W459 (Or.inl (List.mem_of_getElem? (i := 0) rfl))
  obtain ⟨fs, hr, hrun, hended, hW, hsame⟩ := X459.leave (v := none) (fun _ => rfl)
  have c460 := (Fx455_2.other W459 (Ne.symm ne_r0_b456))
  have c461 := (Fe455_0.other W459 (Or.inr (slot_ne (Or.inl (hw _ (tk 19 rfl))) (Or.inl (hw _ (tk 17 rfl))) (by first | decide | exact Nat.le_of_ble_eq_true rfl | (show _ ≤ (0 + (0 + (0 + cpN))); omega)) (t := .boolean) (t' := .int) (by first | decide | exact Nat.le_of_ble_eq_true rfl | (show _ ≤ (0 + (0 + (0 + cpN))); omega)) (by first | decide | exact Nat.le_of_ble_eq_true rfl | (show _ ≤ (0 + (0 + (0 + cpN))); omega)))))
  have c462 := (Fe455_1.other W459 (Or.inr (slot_ne (Or.inl (hw _ (tk 30 rfl))) (Or.inl (hw _ (tk 17 rfl))) (by first | decide | exact Nat.le_of_ble_eq_true rfl | (show _ ≤ (0 + (0 + (0 + cpN))); omega)) (t := (.array .long)) (t' := .int) (by first | decide | exact Nat.le_of_ble_eq_true rfl | (show _ ≤ (0 + (0 + (0 + cpN))); omega)) (by first | decide | exact Nat.le_of_ble_eq_true rfl | (show _ ≤ (0 + (0 + (0 + cpN))); omega)))))
  refine ⟨_, _, pre0 _ ?_, hrun, hended, _, _, rfl, ?_, ⟨_, rfl⟩, hW, hsame.mono (by first | decide | exact Nat.le_of_ble_eq_true rfl | (show _ ≤ (0 + (0 + (0 + cpN))); omega)) (by show (0 + (0 + (0 + cpN))) ≤ (0 + (0 + (0 + cpN))); omega)⟩
  · show Sp p e below s₁ (mkF m 0 (lt7 r0 p1) []) _
    refine XS.iloadN X0.here hx rfl (hb hby d7_0) rfl ?_
    refine XS.iconst X0.here hx rfl (hb hby d7_1) ?_
    show Sp p e below s₁ (mkF m 2 (lt7 r0 p1) [(.int (1 : Int32)), (.int p1)]) _
    refine XS.iadd X0.here hx rfl (hb hby d7_2) rfl ?_
    refine XS.istoreN X0.here hx rfl (hb hby d7_3) rfl (l' := (lt8 r0 p1 (p1 + (1 : Int32)))) rfl ?_
    show Sp p e below s₁ (mkF m 4 (lt8 r0 p1 (p1 + (1 : Int32))) []) _
    refine XS.aloadN X0.here hx rfl (hb hby d7_4) rfl rfl ?_
    show Sp p e below s₁ (mkF m 5 (lt8 r0 p1 (p1 + (1 : Int32))) [(.ref r0)]) _
    refine st391 _ ?_
    show Sp p e below T391 (mkF m 8 (lt8 r0 p1 (p1 + (1 : Int32))) [(.int x_r0_f4)]) _
    refine XS.iloadN X391.here hx rfl (hb hby d7_8) rfl ?_
    show Sp p e below T391 (mkF m 9 (lt8 r0 p1 (p1 + (1 : Int32))) [(.int (p1 + (1 : Int32))), (.int x_r0_f4)]) _
    refine XS.icmpNo X391.here hx rfl (hb hby d7_9) rfl (tlt as0).2.1 ?_
    show Sp p e below T391 (mkF m 12 (lt8 r0 p1 (p1 + (1 : Int32))) []) _
    refine XS.aloadN X391.here hx rfl (hb hby d7_12) rfl rfl ?_
    refine XS.iloadN X391.here hx rfl (hb hby d7_13) rfl ?_
    show Sp p e below T391 (mkF m 14 (lt8 r0 p1 (p1 + (1 : Int32))) [(.int (p1 + (1 : Int32))), (.ref r0)]) _
    refine st455.trans ?_
    show Sp p e below T455 (mkF m 17 (lt8 r0 p1 (p1 + (1 : Int32))) []) _
    refine XS.aloadN X455.here hx rfl (hb hby d7_17) rfl rfl ?_
    refine XS.iloadN X455.here hx rfl (hb hby d7_18) rfl ?_
    show Sp p e below T455 (mkF m 19 (lt8 r0 p1 (p1 + (1 : Int32))) [(.int (p1 + (1 : Int32))), (.ref r0)]) _
    refine st459 _ ?_
    show Sp p e below T459 (mkF m 22 (lt8 r0 p1 (p1 + (1 : Int32))) []) _
    exact X459.returnOut hx Bd.returns (hb hby d7_22) hr
  · show Q7x1 Z w_1 w_2 r0 p1 r0_f3 x_r0_f4 k_r0_f3 x_r0_f3_n x_r0_f3_F cpN h0 n0 _ T459.heap _
    rw [e459]
    exact ⟨b456, k457, rfl, N459, O459, K459, c461, c462, Fw459, g_b456, sz_b456, c460⟩
theorem pn_9x1 : plainName "java/util/BitSet" = true := by first | (simp [plainName, overriddenIn]; done) | decide +kernel
theorem ef_9x1 (m : MethodId) (r0 : Addr) : entryFrame m #[(.ref r0)] 1 = mkF m 0 #[.val (.ref r0)] [] := by first | (simp [entryFrame, mkF, argsToLocals, Value.category]; done) | rfl
def Q9x1 (Z : State) (w_1 : Addr) (w_2 : Addr) (r0 : Addr) (r0_f3 : Addr) (x_r0_f4 : Int32) (k_r0_f3 : ClassId) (x_r0_f3_n : Int32) (x_r0_f3_F : Nat → Int64) (h0 : Heap) (n0 : Nat) (v : Option Value) (h : Heap) (L : List Loc) : Prop := v = none ∧ Fr n0 L ∧ h = h0
set_option maxRecDepth 65536 in
set_option maxHeartbeats 40000000 in
theorem rm9x1 (l : Launch) (Z : State) (a0 : Array Value) (hw : ∀ d ∈ tables_1, d.before a0 Z = true) (hv : ∀ d ∈ jdkStatics_1, d.before a0 Z = true) (ws : List Jvm.Cond) (w_1 : Addr) (w_2 : Addr) (hS : StF Z w_1 w_2) (r0 : Addr) (r0_f3 : Addr) (x_r0_f4 : Int32) (k_r0_f3 : ClassId) (x_r0_f3_n : Int32) (x_r0_f3_F : Nat → Int64) (h0 : Heap) (n0 : Nat) (O0 : Old Z n0 h0) (g_r0 : n0 ≤ r0) (g_r0_f3 : n0 ≤ r0_f3) (E_r0 : Exa Z h0 r0 "java/util/BitSet") (F_words_r0 : Fld Z h0 r0 "java/util/BitSet" "words" "[J" (.ref r0_f3)) (F_wordsInUse_r0 : Fld Z h0 r0 "java/util/BitSet" "wordsInUse" "I" (.int x_r0_f4)) (V_r0_f3 : Arj Z h0 r0_f3 k_r0_f3 x_r0_f3_n x_r0_f3_F) (ne_r0_r0_f3 : r0 ≠ r0_f3) :
    MetFree l Y19 (head1 (Jvm.Cond.code Y19 jdk_92_method_2_code 1 none :: ws) ({ frames := 0, cells := 0, slots := 0, locals := 0 } : Room)) (fun a U => a = #[(.ref r0)] ∧ Z.Warmed39 U.vm ∧ U.heap = h0) (fun _ _ _ _ _ => True) (fun _ U o U' => ∃ v L, o = .returned v ∧ Q9x1 Z w_1 w_2 r0 r0_f3 x_r0_f4 k_r0_f3 x_r0_f3_n x_r0_f3_F h0 n0 v U'.heap L ∧ FrameEnd U o U' L ({ frames := 0, cells := 0, slots := 0, locals := 0 } : Room).cells ({ frames := 0, cells := 0, slots := 0, locals := 0 } : Room).slots) := by
  refine MetFree.of_bodySF (plainFor_of_name pn_9x1) hisR ?_
  intro p e s m args below meth c s₁ Bd hml0 hP hK
  obtain ⟨rfl, hZ, hh⟩ := hP
  have hx := Bd.exec
  have hby := Bd.bytes
  have hml : c.maxLocals = 1 := hml0
  have hown : s.vm.findClass "java/util/BitSet" = some m.cls := findClass_of_methodNamed Bd.named
  have hnm := (name_of_methodNamed Bd.named Bd.method).1
  have X0 : Stand p l e ({ frames := 0, cells := 0, slots := 0, locals := 0 } : Room) s m #[(.ref r0)] below meth c s₁ [] 0 0 := Stand.of_body Bd
  have e0 : s₁.heap = h0 := by rw [← hh, Bd.state]; rfl
  have N0 := Fr.nil n0
  have hS0 := hS
  obtain ⟨S_1, E_1, S_2, E_2, S_3⟩ := hS
  have pre0 : ∀ t, Steps p.tables e below (s₁.setTop (mkF m 0 #[.val (.ref r0)] [])) t → Steps p.tables e below (s₁.setTop (entryFrame m #[(.ref r0)] 1)) t := fun t k => castTop (ef_9x1 m r0) k
  generalize hE0 : s₁.setTop (entryFrame m #[(.ref r0)] 1) = E0 at pre0 ⊢
  obtain ⟨T644, X644, e644, st644⟩ := getS2 X0 hx hZ hown (host := "") (Or.inl (hw _ (tk 56 rfl))) Via.refl e0 (S_3.ext O0.2) (g := (mkF m 0 (lt3 r0) [])) rfl (hb hby d9_0)
  obtain ⟨T645, X645, e645, st645⟩ := getS2 X644 hx hZ hown (host := "") (Or.inl (hw _ (tk 56 rfl))) Via.refl e644 (S_3.ext O0.2) (g := (mkF m 37 (lt3 r0) [])) rfl (hb hby d9_37)
  obtain ⟨T646, X646, e646, st646⟩ := getS2 X645 hx hZ hown (host := "") (Or.inl (hw _ (tk 56 rfl))) Via.refl e645 (S_3.ext O0.2) (g := (mkF m 70 (lt3 r0) [])) rfl (hb hby d9_70)
  obtain ⟨fs, hr, hrun, hended, hW, hsame⟩ := X646.leave (v := none) (fun _ => rfl)
  refine ⟨_, _, pre0 _ ?_, hrun, hended, _, _, rfl, ?_, ⟨_, rfl⟩, hW, hsame.mono (by decide) (by decide)⟩
  · show Sp p e below s₁ (mkF m 0 (lt3 r0) []) _
    refine st644 _ ?_
    show Sp p e below T644 (mkF m 3 (lt3 r0) [(.int (1 : Int32))]) _
    refine XS.ifYes X644.here hx rfl (pc0 := 3) (pc' := 37) rfl (hb hby d9_3) rfl ((if0 _ _).trans (feq (by decide : ¬ ((1 : Int32) = (0 : Int32)))).2) (by decide) (by decide) ?_
    show Sp p e below T644 (mkF m 37 (lt3 r0) []) _
    refine st645 _ ?_
    show Sp p e below T645 (mkF m 40 (lt3 r0) [(.int (1 : Int32))]) _
    refine XS.ifYes X645.here hx rfl (pc0 := 40) (pc' := 70) rfl (hb hby d9_40) rfl ((if0 _ _).trans (feq (by decide : ¬ ((1 : Int32) = (0 : Int32)))).2) (by decide) (by decide) ?_
    show Sp p e below T645 (mkF m 70 (lt3 r0) []) _
    refine st646 _ ?_
    show Sp p e below T646 (mkF m 73 (lt3 r0) [(.int (1 : Int32))]) _
    refine XS.ifYes X646.here hx rfl (pc0 := 73) (pc' := 110) rfl (hb hby d9_73) rfl ((if0 _ _).trans (feq (by decide : ¬ ((1 : Int32) = (0 : Int32)))).2) (by decide) (by decide) ?_
    show Sp p e below T646 (mkF m 110 (lt3 r0) []) _
    exact X646.returnOut hx Bd.returns (hb hby d9_110) hr
  · show Q9x1 Z w_1 w_2 r0 r0_f3 x_r0_f4 k_r0_f3 x_r0_f3_n x_r0_f3_F h0 n0 _ T646.heap _
    rw [e646]
    exact ⟨rfl, N0, rfl⟩
theorem pn_6x1 : plainName "java/util/BitSet" = true := by first | (simp [plainName, overriddenIn]; done) | decide +kernel
theorem ef_6x1 (m : MethodId) (r0 : Addr) (p1 : Int32) : entryFrame m #[(.ref r0), (.int p1)] 3 = mkF m 0 #[.val (.ref r0), .val (.int p1), .unset] [] := by first | (simp [entryFrame, mkF, argsToLocals, Value.category]; done) | rfl
def Q6x1 (Z : State) (w_1 : Addr) (w_2 : Addr) (r0 : Addr) (p1 : Int32) (r0_f3 : Addr) (x_r0_f4 : Int32) (k_r0_f3 : ClassId) (x_r0_f3_n : Int32) (x_r0_f3_F : Nat → Int64) (cpN : Nat) (h0 : Heap) (n0 : Nat) (v : Option Value) (h : Heap) (L : List Loc) : Prop := ∃ (b638 : Addr) (k639 : ClassId), v = none ∧ Fr n0 L ∧ Old Z n0 h ∧ Keep h0 h [r0] ∧ Fld Z h r0 "java/util/BitSet" "sizeIsSticky" "Z" (.int (0 : Int32)) ∧ Fld Z h r0 "java/util/BitSet" "words" "[J" (.ref b638) ∧ Fld Z h r0 "java/util/BitSet" "wordsInUse" "I" (.int ((p1 >>> ((6 : Int32) &&& 31)) + (1 : Int32))) ∧ n0 ≤ b638 ∧ h0.size ≤ b638 ∧ Arj Z h b638 k639 ((p1 >>> ((6 : Int32) &&& 31)) + (1 : Int32)) (upF (ovF x_r0_f3_F (x_r0_f3_n).toNatClampNeg (fun _ => (0 : Int64))) ((p1 >>> ((6 : Int32) &&& 31))).toNatClampNeg (((ovF x_r0_f3_F (x_r0_f3_n).toNatClampNeg (fun _ => (0 : Int64))) ((p1 >>> ((6 : Int32) &&& 31))).toNatClampNeg) ||| ((1 : Int64) <<< (p1 &&& 0x3f).toInt64)))
set_option maxRecDepth 65536 in
set_option maxHeartbeats 40000000 in
theorem rm6x1 (l : Launch) (Z : State) (a0 : Array Value) (hw : ∀ d ∈ tables_1, d.before a0 Z = true) (hv : ∀ d ∈ jdkStatics_1, d.before a0 Z = true) (ws : List Jvm.Cond) (w_1 : Addr) (w_2 : Addr) (hS : StF Z w_1 w_2) (r0 : Addr) (p1 : Int32) (r0_f3 : Addr) (x_r0_f4 : Int32) (k_r0_f3 : ClassId) (x_r0_f3_n : Int32) (x_r0_f3_F : Nat → Int64) (cpN : Nat) (h0 : Heap) (n0 : Nat) (O0 : Old Z n0 h0) (g_r0 : n0 ≤ r0) (g_r0_f3 : n0 ≤ r0_f3) (E_r0 : Exa Z h0 r0 "java/util/BitSet") (F_sizeIsSticky_r0 : Fld Z h0 r0 "java/util/BitSet" "sizeIsSticky" "Z" (.int (0 : Int32))) (F_words_r0 : Fld Z h0 r0 "java/util/BitSet" "words" "[J" (.ref r0_f3)) (F_wordsInUse_r0 : Fld Z h0 r0 "java/util/BitSet" "wordsInUse" "I" (.int x_r0_f4)) (V_r0_f3 : Arj Z h0 r0_f3 k_r0_f3 x_r0_f3_n x_r0_f3_F) (ne_r0_r0_f3 : r0 ≠ r0_f3) (as0 : ¬ (p1 < (0 : Int32))) (as1 : (x_r0_f4 < ((p1 >>> ((6 : Int32) &&& 31)) + (1 : Int32)))) (as2 : (x_r0_f3_n < ((p1 >>> ((6 : Int32) &&& 31)) + (1 : Int32)))) (as3 : (((2 : Int32) * x_r0_f3_n) < ((p1 >>> ((6 : Int32) &&& 31)) + (1 : Int32)))) (as4 : ¬ (((p1 >>> ((6 : Int32) &&& 31)) + (1 : Int32)) = x_r0_f3_n)) (as5 : ¬ (((p1 >>> ((6 : Int32) &&& 31)) + (1 : Int32)) < (0 : Int32))) (as6 : ¬ (((p1 >>> ((6 : Int32) &&& 31)) + (1 : Int32)) < x_r0_f3_n)) (as7 : ((p1 >>> ((6 : Int32) &&& 31)) < ((p1 >>> ((6 : Int32) &&& 31)) + (1 : Int32)))) (as8 : ¬ ((p1 >>> ((6 : Int32) &&& 31)) < (0 : Int32))) (hcp : (((p1 >>> ((6 : Int32) &&& 31)) + (1 : Int32))).toNatClampNeg ≤ cpN) (hcb : cpN * 8 ≤ 536870912) :
    MetFree l Y20 (head1 (Jvm.Cond.code Y20 jdk_92_method_19_code 3 none :: ws) ({ frames := 4, cells := 1, slots := (0 + (0 + (0 + (0 + cpN)))), locals := 61 } : Room)) (fun a U => a = #[(.ref r0), (.int p1)] ∧ Z.Warmed39 U.vm ∧ U.heap = h0) (fun _ _ _ _ _ => True) (fun _ U o U' => ∃ v L, o = .returned v ∧ Q6x1 Z w_1 w_2 r0 p1 r0_f3 x_r0_f4 k_r0_f3 x_r0_f3_n x_r0_f3_F cpN h0 n0 v U'.heap L ∧ FrameEnd U o U' L ({ frames := 4, cells := 1, slots := (0 + (0 + (0 + (0 + cpN)))), locals := 61 } : Room).cells ({ frames := 4, cells := 1, slots := (0 + (0 + (0 + (0 + cpN)))), locals := 61 } : Room).slots) := by
  refine MetFree.of_bodySF (plainFor_of_name pn_6x1) hisR ?_
  intro p e s m args below meth c s₁ Bd hml0 hP hK
  obtain ⟨rfl, hZ, hh⟩ := hP
  have hx := Bd.exec
  have hby := Bd.bytes
  have hml : c.maxLocals = 3 := hml0
  have hown : s.vm.findClass "java/util/BitSet" = some m.cls := findClass_of_methodNamed Bd.named
  have hnm := (name_of_methodNamed Bd.named Bd.method).1
  have X0 : Stand p l e ({ frames := 4, cells := 1, slots := (0 + (0 + (0 + (0 + cpN)))), locals := 61 } : Room) s m #[(.ref r0), (.int p1)] below meth c s₁ [] 0 0 := Stand.of_body Bd
  have e0 : s₁.heap = h0 := by rw [← hh, Bd.state]; rfl
  have N0 := Fr.nil n0
  have hS0 := hS
  obtain ⟨S_1, E_1, S_2, E_2, S_3⟩ := hS
  have pre0 : ∀ t, Steps p.tables e below (s₁.setTop (mkF m 0 #[.val (.ref r0), .val (.int p1), .unset] [])) t → Steps p.tables e below (s₁.setTop (entryFrame m #[(.ref r0), (.int p1)] 3)) t := fun t k => castTop (ef_6x1 m r0 p1) k
  generalize hE0 : s₁.setTop (entryFrame m #[(.ref r0), (.int p1)] 3) = E0 at pre0 ⊢
  obtain ⟨_, _, ⟨T555, L555, k555, n555⟩, -, X555, ⟨Lc555, hQ555, l555, y555, z555⟩, st555⟩ := Jvm.LawKit.callS X0 hx (y := Y5) hown (mvT hZ (hw _ (tk 25 rfl))) (mvT hZ (hw _ (tk 26 rfl))) (mvT hZ (hw _ (tk 11 rfl))) (mvT hZ (hw _ (tk 27 rfl))) (by first | decide | exact Nat.le_of_ble_eq_true rfl | (show _ ≤ (0 + (0 + (0 + (0 + cpN)))); omega)) (backOf (W := 0) (rm5 l Z a0 hw hv [] w_1 w_2 hS0 p1 h0 n0 O0) hZ (hw _ (tk 27 rfl)) (hw _ (tk 11 rfl)) (by first | decide | exact Nat.le_of_ble_eq_true rfl | (show _ ≤ (0 + (0 + (0 + (0 + cpN)))); omega)) (by first | decide | exact Nat.le_of_ble_eq_true rfl | (show _ ≤ (0 + (0 + (0 + (0 + cpN)))); omega))) (g := (mkF m 32 (lt7 r0 p1) [(.int p1)])) rfl (by rw [hml]; rfl) (argsL := [(.int p1)]) (rest := []) (lenOf pd_0 rfl) rfl (by show 2 * 0 + _ ≤ _; exact Nat.le_of_eq rfl) (hb hby d6_32) (fun _ _ => ⟨rfl, e0, (by first | decide | exact Nat.le_of_ble_eq_true rfl | (show _ ≤ (0 + (0 + (0 + (0 + cpN)))); omega) : 0 + 0 ≤ _), (by first | decide | exact Nat.le_of_ble_eq_true rfl | (show _ ≤ (0 + (0 + (0 + (0 + cpN)))); omega) : 0 + 0 ≤ _)⟩)
  dsimp only [Pt.U, Pt.locs, Pt.cells, Pt.slots] at X555 l555 y555 z555 st555 hQ555
  subst l555 y555 z555
  obtain ⟨rv555, N555q, e555⟩ := hQ555
  rw [show sp5 p1 = (p1 >>> ((6 : Int32) &&& 31)) from by unfold sp5; rfl] at rv555
  subst rv555
  have N555 := Fr.app N0 N555q
  obtain ⟨cq637, q637, q637'⟩ := E_r0.cell
  obtain ⟨_, _, ⟨T637, L637, k637, n637⟩, -, X637, ⟨Lc637, hQ637, l637, y637, z637⟩, st637⟩ := X555.privateBack hx (y := Y18) hown (mvT hZ (hw _ (tk 41 rfl))) (mvT hZ (hw _ (tk 42 rfl))) (mvT hZ (hw _ (tk 44 rfl))) (Cond.privateMethod_at (mvP hZ (hw _ (tk 43 rfl)) (args := #[]))) (mvT hZ (hw _ (tk 45 rfl))) (by first | decide | exact Nat.le_of_ble_eq_true rfl | (show _ ≤ (0 + (0 + (0 + (0 + cpN)))); omega)) (backOf (W := 0) (rm7x1 l Z a0 hw hv [] w_1 w_2 hS0 r0 (p1 >>> ((6 : Int32) &&& 31)) r0_f3 x_r0_f4 k_r0_f3 x_r0_f3_n x_r0_f3_F cpN h0 n0 O0 g_r0 g_r0_f3 E_r0 F_sizeIsSticky_r0 F_words_r0 F_wordsInUse_r0 V_r0_f3 ne_r0_r0_f3 as1 as2 as3 as4 as5 as6 hcp hcb) hZ (hw _ (tk 45 rfl)) (hw _ (tk 11 rfl)) (by first | decide | exact Nat.le_of_ble_eq_true rfl | (show _ ≤ (0 + (0 + (0 + (0 + cpN)))); omega)) (by first | decide | exact Nat.le_of_ble_eq_true rfl | (show _ ≤ (0 + (0 + (0 + (0 + cpN)))); omega))) (g := (mkF m 38 (lt8 r0 p1 (p1 >>> ((6 : Int32) &&& 31))) [(.int (p1 >>> ((6 : Int32) &&& 31))), (.ref r0)])) rfl (by rw [hml]; rfl) (Steps.refl _) (a := r0) (by rw [e555]; exact q637) q637' (argsL := [(.int (p1 >>> ((6 : Int32) &&& 31)))]) (rest := []) (lenOf pd_1 rfl) rfl (by show 2 * 0 + _ ≤ _; exact Nat.le_of_eq rfl) (hb hby d6_38) (fun _ _ => ⟨rfl, e555, (by first | decide | exact Nat.le_of_ble_eq_true rfl | (show _ ≤ (0 + (0 + (0 + (0 + cpN)))); omega) : 0 + 1 ≤ _), (by show 0 + (0 + (0 + (0 + cpN))) ≤ (0 + (0 + (0 + (0 + cpN)))); omega)⟩)
  dsimp only [Pt.U, Pt.locs, Pt.cells, Pt.slots] at X637 l637 y637 z637 st637 hQ637
  subst l637 y637 z637
  obtain ⟨b638, k639, rv637, N637q, O637, K637c, Fe637_0, Fe637_1, Fe637_2, Fx637_0, Fx637_1, Fx637_2⟩ := hQ637
  subst rv637
  have N637 := Fr.app N555 N637q
  have K637 : Keep h0 T637.heap [r0] := (Keep.refl h0 [r0]).trans K637c (allS (Or.inl (List.mem_of_getElem? (i := 0) rfl)) all0)
  have g_b638 := Fx637_0
  have sz_b638 : h0.size ≤ b638 := Nat.le_trans (Keep.refl h0 [r0]).1 Fx637_1
  have ne_r0_b638 : r0 ≠ b638 := Nat.ne_of_lt (Nat.lt_of_lt_of_le E_r0.lt Fx637_1)
  have ne_r0_f3_b638 : r0_f3 ≠ b638 := Nat.ne_of_lt (Nat.lt_of_lt_of_le V_r0_f3.lt Fx637_1)
  obtain ⟨T640, X640, e640, st640⟩ := getF X637 hx hZ hown (host := "") (Or.inl (hw _ (tk 29 rfl))) Via.refl rfl Fe637_1 (g := (mkF m 42 (lt8 r0 p1 (p1 >>> ((6 : Int32) &&& 31))) [(.ref r0)])) rfl rfl (hb hby d6_42)
  obtain ⟨cl641, Ar641, qa641, Sa641, Ma641, Ha641, Ga641⟩ := id Fx637_2
  have hin641 : ¬ ((p1 >>> ((6 : Int32) &&& 31)) < 0 ∨ cl641.slots.size ≤ ((p1 >>> ((6 : Int32) &&& 31))).toNatClampNeg) := by exact inb_of Sa641 ⟨as8, as7⟩
  have hat641 : cl641.slots[((p1 >>> ((6 : Int32) &&& 31))).toNatClampNeg]? = some (.long ((ovF x_r0_f3_F (x_r0_f3_n).toNatClampNeg (fun _ => (0 : Int64))) ((p1 >>> ((6 : Int32) &&& 31))).toNatClampNeg)) := Ha641 _ (Nat.lt_of_not_le fun y => hin641 (Or.inr y))
  obtain ⟨cl642, Ar642, qa642, Sa642, Ma642, Ha642, Ga642⟩ := id Fx637_2
  have hin642 : ¬ ((p1 >>> ((6 : Int32) &&& 31)) < 0 ∨ cl642.slots.size ≤ ((p1 >>> ((6 : Int32) &&& 31))).toNatClampNeg) := by exact inb_of Sa642 ⟨as8, as7⟩
  obtain ⟨T643, h643, X643, e643, W643, st643⟩ := stJ X640 hx hZ e640 Ar642 (j := (p1 >>> ((6 : Int32) &&& 31))) hin642 (g := (mkF m 52 (lt8 r0 p1 (p1 >>> ((6 : Int32) &&& 31))) [(.long (((ovF x_r0_f3_F (x_r0_f3_n).toNatClampNeg (fun _ => (0 : Int64))) ((p1 >>> ((6 : Int32) &&& 31))).toNatClampNeg) ||| ((1 : Int64) <<< (p1 &&& 0x3f).toInt64))), (.int (p1 >>> ((6 : Int32) &&& 31))), (.ref b638)])) rfl rfl (hb hby d6_52)
  have V_b638_643 : Arj Z h643 b638 k639 ((p1 >>> ((6 : Int32) &&& 31)) + (1 : Int32)) (upF (ovF x_r0_f3_F (x_r0_f3_n).toNatClampNeg (fun _ => (0 : Int64))) ((p1 >>> ((6 : Int32) &&& 31))).toNatClampNeg (((ovF x_r0_f3_F (x_r0_f3_n).toNatClampNeg (fun _ => (0 : Int64))) ((p1 >>> ((6 : Int32) &&& 31))).toNatClampNeg) ||| ((1 : Int64) <<< (p1 &&& 0x3f).toInt64))) := Arj.push Ar642 qa642 Sa642 Ma642 Ha642 W643 hin642
  have O643 : Old Z n0 h643 := O637.wr W643 g_b638
  have N643 := Fr.snoc X643 N637 g_b638
  have K643 : Keep h0 h643 [r0] := K637.wr W643 (Or.inr sz_b638)
  have c647 := ((E_r0.keep K637c).wr W643)
  have c648 := (Fe637_1.other W643 (Or.inl ne_r0_b638))
  have c649 := (Fe637_2.other W643 (Or.inl ne_r0_b638))
  obtain ⟨cq650, q650, q650'⟩ := c647.cell
  obtain ⟨_, _, ⟨T650, L650, k650, n650⟩, -, X650, ⟨Lc650, hQ650, l650, y650, z650⟩, st650⟩ := X643.privateBack hx (y := Y19) hown (mvT hZ (hw _ (tk 51 rfl))) (mvT hZ (hw _ (tk 52 rfl))) (mvT hZ (hw _ (tk 54 rfl))) (Cond.privateMethod_at (mvP hZ (hw _ (tk 53 rfl)) (args := #[]))) (mvT hZ (hw _ (tk 55 rfl))) (by first | decide | exact Nat.le_of_ble_eq_true rfl | (show _ ≤ (0 + (0 + (0 + (0 + cpN)))); omega)) (backOf (W := 0) (rm9x1 l Z a0 hw hv [] w_1 w_2 hS0 r0 b638 ((p1 >>> ((6 : Int32) &&& 31)) + (1 : Int32)) k639 ((p1 >>> ((6 : Int32) &&& 31)) + (1 : Int32)) (upF (ovF x_r0_f3_F (x_r0_f3_n).toNatClampNeg (fun _ => (0 : Int64))) ((p1 >>> ((6 : Int32) &&& 31))).toNatClampNeg (((ovF x_r0_f3_F (x_r0_f3_n).toNatClampNeg (fun _ => (0 : Int64))) ((p1 >>> ((6 : Int32) &&& 31))).toNatClampNeg) ||| ((1 : Int64) <<< (p1 &&& 0x3f).toInt64))) h643 n0 O643 g_r0 g_b638 c647 c648 c649 V_b638_643 ne_r0_b638) hZ (hw _ (tk 55 rfl)) (hw _ (tk 11 rfl)) (by first | decide | exact Nat.le_of_ble_eq_true rfl | (show _ ≤ (0 + (0 + (0 + (0 + cpN)))); omega)) (by first | decide | exact Nat.le_of_ble_eq_true rfl | (show _ ≤ (0 + (0 + (0 + (0 + cpN)))); omega))) (g := (mkF m 54 (lt8 r0 p1 (p1 >>> ((6 : Int32) &&& 31))) [(.ref r0)])) rfl (by rw [hml]; rfl) (Steps.refl _) (a := r0) (by rw [e643]; exact q650) q650' (argsL := []) (rest := []) (lenOf pd_2 rfl) rfl (by show 2 * 0 + _ ≤ _; exact Nat.le_of_eq rfl) (hb hby d6_54) (fun _ _ => ⟨rfl, e643, (by first | decide | exact Nat.le_of_ble_eq_true rfl | (show _ ≤ (0 + (0 + (0 + (0 + cpN)))); omega) : 1 + 0 ≤ _), (by show (0 + (0 + (0 + (0 + cpN)))) + 0 ≤ (0 + (0 + (0 + (0 + cpN)))); omega)⟩)
  dsimp only [Pt.U, Pt.locs, Pt.cells, Pt.slots] at X650 l650 y650 z650 st650 hQ650
  subst l650 y650 z650
  obtain ⟨rv650, N650q, e650⟩ := hQ650
  subst rv650
  have N650 := Fr.app N643 N650q
  obtain ⟨fs, hr, hrun, hended, hW, hsame⟩ := X650.leave (v := none) (fun _ => rfl)
  have c651 := (Fe637_0.other W643 (Or.inl ne_r0_b638))
  refine ⟨_, _, pre0 _ ?_, hrun, hended, _, _, rfl, ?_, ⟨_, rfl⟩, hW, hsame.mono (by first | decide | exact Nat.le_of_ble_eq_true rfl | (show _ ≤ (0 + (0 + (0 + (0 + cpN)))); omega)) (by show (0 + (0 + (0 + (0 + cpN)))) ≤ (0 + (0 + (0 + (0 + cpN)))); omega)⟩
  · show Sp p e below s₁ (mkF m 0 (lt7 r0 p1) []) _
    refine XS.iloadN X0.here hx rfl (hb hby d6_0) rfl ?_
    show Sp p e below s₁ (mkF m 1 (lt7 r0 p1) [(.int p1)]) _
    refine XS.ifYes X0.here hx rfl (pc0 := 1) (pc' := 31) rfl (hb hby d6_1) rfl ((if0 _ _).trans (flt as0).2.1) (by first | decide | exact Nat.le_of_ble_eq_true rfl | (show _ ≤ (0 + (0 + (0 + (0 + cpN)))); omega)) (by first | decide | exact Nat.le_of_ble_eq_true rfl | (show _ ≤ (0 + (0 + (0 + (0 + cpN)))); omega)) ?_
    show Sp p e below s₁ (mkF m 31 (lt7 r0 p1) []) _
    refine XS.iloadN X0.here hx rfl (hb hby d6_31) rfl ?_
    show Sp p e below s₁ (mkF m 32 (lt7 r0 p1) [(.int p1)]) _
    refine st555 _ ?_
    show Sp p e below T555 (mkF m 35 (lt7 r0 p1) [(.int (p1 >>> ((6 : Int32) &&& 31)))]) _
    refine XS.istoreN X555.here hx rfl (hb hby d6_35) rfl (l' := (lt8 r0 p1 (p1 >>> ((6 : Int32) &&& 31)))) rfl ?_
    refine XS.aloadN X555.here hx rfl (hb hby d6_36) rfl rfl ?_
    show Sp p e below T555 (mkF m 37 (lt8 r0 p1 (p1 >>> ((6 : Int32) &&& 31))) [(.ref r0)]) _
    refine XS.iloadN X555.here hx rfl (hb hby d6_37) rfl ?_
    show Sp p e below T555 (mkF m 38 (lt8 r0 p1 (p1 >>> ((6 : Int32) &&& 31))) [(.int (p1 >>> ((6 : Int32) &&& 31))), (.ref r0)]) _
    refine st637.trans ?_
    show Sp p e below T637 (mkF m 41 (lt8 r0 p1 (p1 >>> ((6 : Int32) &&& 31))) []) _
    refine XS.aloadN X637.here hx rfl (hb hby d6_41) rfl rfl ?_
    show Sp p e below T637 (mkF m 42 (lt8 r0 p1 (p1 >>> ((6 : Int32) &&& 31))) [(.ref r0)]) _
    refine st640 _ ?_
    show Sp p e below T640 (mkF m 45 (lt8 r0 p1 (p1 >>> ((6 : Int32) &&& 31))) [(.ref b638)]) _
    refine XS.iloadN X640.here hx rfl (hb hby d6_45) rfl ?_
    show Sp p e below T640 (mkF m 46 (lt8 r0 p1 (p1 >>> ((6 : Int32) &&& 31))) [(.int (p1 >>> ((6 : Int32) &&& 31))), (.ref b638)]) _
    refine XT.dup2 X640.here hx rfl (hb hby d6_46) rfl rfl rfl ?_
    show Sp p e below T640 (mkF m 47 (lt8 r0 p1 (p1 >>> ((6 : Int32) &&& 31))) [(.int (p1 >>> ((6 : Int32) &&& 31))), (.ref b638), (.int (p1 >>> ((6 : Int32) &&& 31))), (.ref b638)]) _
    refine X640.laload hx (j := (p1 >>> ((6 : Int32) &&& 31))) (v := (.long ((ovF x_r0_f3_F (x_r0_f3_n).toNatClampNeg (fun _ => (0 : Int64))) ((p1 >>> ((6 : Int32) &&& 31))).toNatClampNeg))) (by rw [e640]; exact Ar641.1) (State.isArrayOf_alike hZ.alike Ar641.2.1) Ar641.2.2 hin641 hat641 (g := (mkF m 47 (lt8 r0 p1 (p1 >>> ((6 : Int32) &&& 31))) [(.int (p1 >>> ((6 : Int32) &&& 31))), (.ref b638), (.int (p1 >>> ((6 : Int32) &&& 31))), (.ref b638)])) rfl rfl (hb hby d6_47) _ ?_
    show Sp p e below T640 (mkF m 48 (lt8 r0 p1 (p1 >>> ((6 : Int32) &&& 31))) [(.long ((ovF x_r0_f3_F (x_r0_f3_n).toNatClampNeg (fun _ => (0 : Int64))) ((p1 >>> ((6 : Int32) &&& 31))).toNatClampNeg)), (.int (p1 >>> ((6 : Int32) &&& 31))), (.ref b638)]) _
    refine XS.lconst X640.here hx rfl (hb hby d6_48) ?_
    refine XS.iloadN X640.here hx rfl (hb hby d6_49) rfl ?_
    show Sp p e below T640 (mkF m 50 (lt8 r0 p1 (p1 >>> ((6 : Int32) &&& 31))) [(.int p1), (.long (1 : Int64)), (.long ((ovF x_r0_f3_F (x_r0_f3_n).toNatClampNeg (fun _ => (0 : Int64))) ((p1 >>> ((6 : Int32) &&& 31))).toNatClampNeg)), (.int (p1 >>> ((6 : Int32) &&& 31))), (.ref b638)]) _
    refine XS.lshl X640.here hx rfl (hb hby d6_50) rfl ?_
    refine XS.lor X640.here hx rfl (hb hby d6_51) rfl ?_
    show Sp p e below T640 (mkF m 52 (lt8 r0 p1 (p1 >>> ((6 : Int32) &&& 31))) [(.long (((ovF x_r0_f3_F (x_r0_f3_n).toNatClampNeg (fun _ => (0 : Int64))) ((p1 >>> ((6 : Int32) &&& 31))).toNatClampNeg) ||| ((1 : Int64) <<< (p1 &&& 0x3f).toInt64))), (.int (p1 >>> ((6 : Int32) &&& 31))), (.ref b638)]) _
    refine st643 _ ?_
    show Sp p e below T643 (mkF m 53 (lt8 r0 p1 (p1 >>> ((6 : Int32) &&& 31))) []) _
    refine XS.aloadN X643.here hx rfl (hb hby d6_53) rfl rfl ?_
    show Sp p e below T643 (mkF m 54 (lt8 r0 p1 (p1 >>> ((6 : Int32) &&& 31))) [(.ref r0)]) _
    refine st650.trans ?_
    show Sp p e below T650 (mkF m 57 (lt8 r0 p1 (p1 >>> ((6 : Int32) &&& 31))) []) _
    exact X650.returnOut hx Bd.returns (hb hby d6_57) hr
  · show Q6x1 Z w_1 w_2 r0 p1 r0_f3 x_r0_f4 k_r0_f3 x_r0_f3_n x_r0_f3_F cpN h0 n0 _ T650.heap _
    rw [e650]
    exact ⟨b638, k639, rfl, N650, O643, K643, c651, c648, c649, g_b638, sz_b638, V_b638_643⟩
theorem pn_8x2 : plainName "java/util/BitSet" = true := by first | (simp [plainName, overriddenIn]; done) | decide +kernel
theorem ef_8x2 (m : MethodId) (r0 : Addr) (p1 : Int32) : entryFrame m #[(.ref r0), (.int p1)] 3 = mkF m 0 #[.val (.ref r0), .val (.int p1), .unset] [] := by first | (simp [entryFrame, mkF, argsToLocals, Value.category]; done) | rfl
def Q8x2 (Z : State) (w_1 : Addr) (w_2 : Addr) (r0 : Addr) (p1 : Int32) (r0_f3 : Addr) (x_r0_f4 : Int32) (k_r0_f3 : ClassId) (x_r0_f3_n : Int32) (x_r0_f3_F : Nat → Int64) (cpN : Nat) (h0 : Heap) (n0 : Nat) (v : Option Value) (h : Heap) (L : List Loc) : Prop := ∃ (b969 : Addr) (k970 : ClassId), v = none ∧ Fr n0 L ∧ Old Z n0 h ∧ Keep h0 h [r0] ∧ Fld Z h r0 "java/util/BitSet" "sizeIsSticky" "Z" (.int (0 : Int32)) ∧ Fld Z h r0 "java/util/BitSet" "words" "[J" (.ref b969) ∧ Fld Z h r0 "java/util/BitSet" "wordsInUse" "I" (.int x_r0_f4) ∧ n0 ≤ b969 ∧ h0.size ≤ b969 ∧ Arj Z h b969 k970 ((2 : Int32) * x_r0_f3_n) (ovF x_r0_f3_F (x_r0_f3_n).toNatClampNeg (fun _ => (0 : Int64)))
set_option maxRecDepth 65536 in
set_option maxHeartbeats 40000000 in
theorem rm8x2 (l : Launch) (Z : State) (a0 : Array Value) (hw : ∀ d ∈ tables_1, d.before a0 Z = true) (hv : ∀ d ∈ jdkStatics_1, d.before a0 Z = true) (ws : List Jvm.Cond) (w_1 : Addr) (w_2 : Addr) (hS : StF Z w_1 w_2) (r0 : Addr) (p1 : Int32) (r0_f3 : Addr) (x_r0_f4 : Int32) (k_r0_f3 : ClassId) (x_r0_f3_n : Int32) (x_r0_f3_F : Nat → Int64) (cpN : Nat) (h0 : Heap) (n0 : Nat) (O0 : Old Z n0 h0) (g_r0 : n0 ≤ r0) (g_r0_f3 : n0 ≤ r0_f3) (E_r0 : Exa Z h0 r0 "java/util/BitSet") (F_sizeIsSticky_r0 : Fld Z h0 r0 "java/util/BitSet" "sizeIsSticky" "Z" (.int (0 : Int32))) (F_words_r0 : Fld Z h0 r0 "java/util/BitSet" "words" "[J" (.ref r0_f3)) (F_wordsInUse_r0 : Fld Z h0 r0 "java/util/BitSet" "wordsInUse" "I" (.int x_r0_f4)) (V_r0_f3 : Arj Z h0 r0_f3 k_r0_f3 x_r0_f3_n x_r0_f3_F) (ne_r0_r0_f3 : r0 ≠ r0_f3) (as0 : (x_r0_f3_n < p1)) (as1 : ¬ (((2 : Int32) * x_r0_f3_n) < p1)) (as2 : ¬ (((2 : Int32) * x_r0_f3_n) = x_r0_f3_n)) (as3 : ¬ (((2 : Int32) * x_r0_f3_n) < (0 : Int32))) (as4 : ¬ (((2 : Int32) * x_r0_f3_n) < x_r0_f3_n)) (hcp : (((2 : Int32) * x_r0_f3_n)).toNatClampNeg ≤ cpN) (hcb : cpN * 8 ≤ 536870912) :
    MetFree l Y17 (head1 (Jvm.Cond.code Y17 jdk_92_method_14_code 3 none :: ws) ({ frames := 2, cells := 1, slots := (0 + (0 + cpN)), locals := 33 } : Room)) (fun a U => a = #[(.ref r0), (.int p1)] ∧ Z.Warmed39 U.vm ∧ U.heap = h0) (fun _ _ _ _ _ => True) (fun _ U o U' => ∃ v L, o = .returned v ∧ Q8x2 Z w_1 w_2 r0 p1 r0_f3 x_r0_f4 k_r0_f3 x_r0_f3_n x_r0_f3_F cpN h0 n0 v U'.heap L ∧ FrameEnd U o U' L ({ frames := 2, cells := 1, slots := (0 + (0 + cpN)), locals := 33 } : Room).cells ({ frames := 2, cells := 1, slots := (0 + (0 + cpN)), locals := 33 } : Room).slots) := by
  refine MetFree.of_bodySF (plainFor_of_name pn_8x2) hisR ?_
  intro p e s m args below meth c s₁ Bd hml0 hP hK
  obtain ⟨rfl, hZ, hh⟩ := hP
  have hx := Bd.exec
  have hby := Bd.bytes
  have hml : c.maxLocals = 3 := hml0
  have hown : s.vm.findClass "java/util/BitSet" = some m.cls := findClass_of_methodNamed Bd.named
  have hnm := (name_of_methodNamed Bd.named Bd.method).1
  have X0 : Stand p l e ({ frames := 2, cells := 1, slots := (0 + (0 + cpN)), locals := 33 } : Room) s m #[(.ref r0), (.int p1)] below meth c s₁ [] 0 0 := Stand.of_body Bd
  have e0 : s₁.heap = h0 := by rw [← hh, Bd.state]; rfl
  have N0 := Fr.nil n0
  have hS0 := hS
  obtain ⟨S_1, E_1, S_2, E_2, S_3⟩ := hS
  have pre0 : ∀ t, Steps p.tables e below (s₁.setTop (mkF m 0 #[.val (.ref r0), .val (.int p1), .unset] [])) t → Steps p.tables e below (s₁.setTop (entryFrame m #[(.ref r0), (.int p1)] 3)) t := fun t k => castTop (ef_8x2 m r0 p1) k
  generalize hE0 : s₁.setTop (entryFrame m #[(.ref r0), (.int p1)] 3) = E0 at pre0 ⊢
  obtain ⟨T956, X956, e956, st956⟩ := getF X0 hx hZ hown (host := "") (Or.inl (hw _ (tk 29 rfl))) Via.refl e0 F_words_r0 (g := (mkF m 1 (lt7 r0 p1) [(.ref r0)])) rfl rfl (hb hby d8_1)
  obtain ⟨cl957, Ar957, qa957, Sa957, Ma957, Ha957, Ga957⟩ := id V_r0_f3
  obtain ⟨T958, X958, e958, st958⟩ := getF X956 hx hZ hown (host := "") (Or.inl (hw _ (tk 29 rfl))) Via.refl e956 F_words_r0 (g := (mkF m 11 (lt7 r0 p1) [(.ref r0), (.int (2 : Int32))])) rfl rfl (hb hby d8_11)
  obtain ⟨cl959, Ar959, qa959, Sa959, Ma959, Ha959, Ga959⟩ := id V_r0_f3
  obtain ⟨_, _, ⟨T960, L960, k960, n960⟩, -, X960, ⟨Lc960, hQ960, l960, y960, z960⟩, st960⟩ := Jvm.LawKit.callS X958 hx (y := Y13) hown (mvT hZ (hw _ (tk 73 rfl))) (mvT hZ (hw _ (tk 74 rfl))) (mvT hZ (hw _ (tk 75 rfl))) (mvT hZ (hw _ (tk 76 rfl))) (by first | decide | exact Nat.le_of_ble_eq_true rfl | (show _ ≤ (0 + (0 + cpN)); omega)) (backOf (W := 0) (rm13 l Z a0 hw hv [] w_1 w_2 hS0 ((2 : Int32) * x_r0_f3_n) p1 h0 n0 O0) hZ (hw _ (tk 76 rfl)) (hw _ (tk 75 rfl)) (by first | decide | exact Nat.le_of_ble_eq_true rfl | (show _ ≤ (0 + (0 + cpN)); omega)) (by first | decide | exact Nat.le_of_ble_eq_true rfl | (show _ ≤ (0 + (0 + cpN)); omega))) (g := (mkF m 17 (lt7 r0 p1) [(.int p1), (.int ((2 : Int32) * x_r0_f3_n))])) rfl (by rw [hml]; rfl) (argsL := [(.int ((2 : Int32) * x_r0_f3_n)), (.int p1)]) (rest := []) (lenOf pd_3 rfl) rfl (by show 2 * 0 + _ ≤ _; exact Nat.le_of_eq rfl) (hb hby d8_17) (fun _ _ => ⟨rfl, e958, (by first | decide | exact Nat.le_of_ble_eq_true rfl | (show _ ≤ (0 + (0 + cpN)); omega) : 0 + 0 ≤ _), (by first | decide | exact Nat.le_of_ble_eq_true rfl | (show _ ≤ (0 + (0 + cpN)); omega) : 0 + 0 ≤ _)⟩)
  dsimp only [Pt.U, Pt.locs, Pt.cells, Pt.slots] at X960 l960 y960 z960 st960 hQ960
  subst l960 y960 z960
  obtain ⟨rv960, N960q, e960⟩ := hQ960
  rw [show sp13 ((2 : Int32) * x_r0_f3_n) p1 = ((2 : Int32) * x_r0_f3_n) from by unfold sp13; rw [if_neg as1]] at rv960
  subst rv960
  have N960 := Fr.app N0 N960q
  obtain ⟨T961, X961, e961, st961⟩ := getF X960 hx hZ hown (host := "") (Or.inl (hw _ (tk 29 rfl))) Via.refl e960 F_words_r0 (g := (mkF m 23 (lt8 r0 p1 ((2 : Int32) * x_r0_f3_n)) [(.ref r0), (.ref r0)])) rfl rfl (hb hby d8_23)
  obtain ⟨_, _, ⟨T968, L968, k968, n968⟩, -, X968, ⟨Lc968, hQ968, l968, y968, z968⟩, st968⟩ := Jvm.LawKit.callS X961 hx (y := Y16) hown (mvT hZ (hw _ (tk 77 rfl))) (mvT hZ (hw _ (tk 78 rfl))) (mvT hZ (hw _ (tk 79 rfl))) (mvT hZ (hw _ (tk 80 rfl))) (by first | decide | exact Nat.le_of_ble_eq_true rfl | (show _ ≤ (0 + (0 + cpN)); omega)) (backOf (W := 1) (rm14x1 l Z a0 hw hv [] w_1 w_2 hS0 r0_f3 ((2 : Int32) * x_r0_f3_n) k_r0_f3 x_r0_f3_n x_r0_f3_F cpN h0 n0 O0 g_r0_f3 V_r0_f3 as2 as3 as4 hcp hcb) hZ (hw _ (tk 80 rfl)) (hw _ (tk 79 rfl)) (by first | decide | exact Nat.le_of_ble_eq_true rfl | (show _ ≤ (0 + (0 + cpN)); omega)) (by first | decide | exact Nat.le_of_ble_eq_true rfl | (show _ ≤ (0 + (0 + cpN)); omega))) (g := (mkF m 27 (lt8 r0 p1 ((2 : Int32) * x_r0_f3_n)) [(.int ((2 : Int32) * x_r0_f3_n)), (.ref r0_f3), (.ref r0)])) rfl (by rw [hml]; rfl) (argsL := [(.ref r0_f3), (.int ((2 : Int32) * x_r0_f3_n))]) (rest := [(.ref r0)]) (lenOf pd_4 rfl) rfl (by show 2 * 0 + _ ≤ _; exact Nat.le_of_eq rfl) (hb hby d8_27) (fun _ _ => ⟨rfl, e961, (by first | decide | exact Nat.le_of_ble_eq_true rfl | (show _ ≤ (0 + (0 + cpN)); omega) : 0 + 1 ≤ _), (by show 0 + (0 + cpN) ≤ (0 + (0 + cpN)); omega)⟩)
  dsimp only [Pt.U, Pt.locs, Pt.cells, Pt.slots] at X968 l968 y968 z968 st968 hQ968
  subst l968 y968 z968
  obtain ⟨b969, k970, rv968, N968q, O968, K968c, Fx968_0, Fx968_1, Fx968_2⟩ := hQ968
  subst rv968
  have N968 := Fr.app N960 N968q
  have K968 : Keep h0 T968.heap [r0] := (Keep.refl h0 [r0]).trans K968c all0
  have g_b969 := Fx968_0
  have sz_b969 : h0.size ≤ b969 := Nat.le_trans (Keep.refl h0 [r0]).1 Fx968_1
  have ne_r0_b969 : r0 ≠ b969 := Nat.ne_of_lt (Nat.lt_of_lt_of_le E_r0.lt Fx968_1)
  have ne_r0_f3_b969 : r0_f3 ≠ b969 := Nat.ne_of_lt (Nat.lt_of_lt_of_le V_r0_f3.lt Fx968_1)
  have c971 := (E_r0.keep K968c)
  have c972 := (F_words_r0.keep K968c nin0)
  obtain ⟨T973, h973, X973, e973, W973, st973⟩ := putF X968 hx hZ hown (host := "") (Or.inl (hw _ (tk 29 rfl))) Via.refl rfl c972 c971 (Or.inl (hw _ (tk 30 rfl))) (hw _ (tk 10 rfl)) (ty := (.array .long)) (by first | decide | exact Nat.le_of_ble_eq_true rfl | (show _ ≤ (0 + (0 + cpN)); omega)) rfl rfl (g := (mkF m 30 (lt8 r0 p1 ((2 : Int32) * x_r0_f3_n)) [(.ref b969), (.ref r0)])) rfl rfl (hb hby d8_30)
  have Fw973 := c972.same W973
  have O973 : Old Z n0 h973 := O968.wr W973 g_r0
  have N973 := Fr.snoc X973 N968 g_r0
  have K973 : Keep h0 h973 [r0] := K968.wr W973 (Or.inl (List.mem_of_getElem? (i := 0) rfl))
  have c974 := (c971.wr W973)
  have c975 := ((F_sizeIsSticky_r0.keep K968c nin0).other W973 (Or.inr (slot_ne (Or.inl (hw _ (tk 19 rfl))) (Or.inl (hw _ (tk 30 rfl))) (by first | decide | exact Nat.le_of_ble_eq_true rfl | (show _ ≤ (0 + (0 + cpN)); omega)) (t := .boolean) (t' := (.array .long)) (by first | decide | exact Nat.le_of_ble_eq_true rfl | (show _ ≤ (0 + (0 + cpN)); omega)) (by first | decide | exact Nat.le_of_ble_eq_true rfl | (show _ ≤ (0 + (0 + cpN)); omega)))))
  obtain ⟨T976, h976, X976, e976, W976, st976⟩ := putFN X973 hx hZ hown (hw _ (tk 18 rfl)) Via.refl e973 c975 c974 (Or.inl (hw _ (tk 19 rfl))) (hw _ (tk 10 rfl)) (ty := .boolean) (v' := (.int (0 : Int32))) (by first | decide | exact Nat.le_of_ble_eq_true rfl | (show _ ≤ (0 + (0 + cpN)); omega)) rfl (by first | decide | exact Nat.le_of_ble_eq_true rfl | (show _ ≤ (0 + (0 + cpN)); omega)) (g := (mkF m 35 (lt8 r0 p1 ((2 : Int32) * x_r0_f3_n)) [(.int (0 : Int32)), (.ref r0)])) rfl rfl (hb hby d8_35)
  have Fw976 := c975.same W976
  have O976 : Old Z n0 h976 := O973.wr W976 g_r0
  have N976 := Fr.snoc X976 N973 g_r0
  have K976 : Keep h0 h976 [r0] := K973.wr W976 (Or.inl (List.mem_of_getElem? (i := 0) rfl))
  obtain ⟨fs, hr, hrun, hended, hW, hsame⟩ := X976.leave (v := none) (fun _ => rfl)
  have c977 := ((Fx968_2.other W973 (Ne.symm ne_r0_b969)).other W976 (Ne.symm ne_r0_b969))
  have c978 := (Fw973.other W976 (Or.inr (slot_ne (Or.inl (hw _ (tk 30 rfl))) (Or.inl (hw _ (tk 19 rfl))) (by first | decide | exact Nat.le_of_ble_eq_true rfl | (show _ ≤ (0 + (0 + cpN)); omega)) (t := (.array .long)) (t' := .boolean) (by first | decide | exact Nat.le_of_ble_eq_true rfl | (show _ ≤ (0 + (0 + cpN)); omega)) (by first | decide | exact Nat.le_of_ble_eq_true rfl | (show _ ≤ (0 + (0 + cpN)); omega)))))
  have c979 := (((F_wordsInUse_r0.keep K968c nin0).other W973 (Or.inr (slot_ne (Or.inl (hw _ (tk 17 rfl))) (Or.inl (hw _ (tk 30 rfl))) (by first | decide | exact Nat.le_of_ble_eq_true rfl | (show _ ≤ (0 + (0 + cpN)); omega)) (t := .int) (t' := (.array .long)) (by first | decide | exact Nat.le_of_ble_eq_true rfl | (show _ ≤ (0 + (0 + cpN)); omega)) (by first | decide | exact Nat.le_of_ble_eq_true rfl | (show _ ≤ (0 + (0 + cpN)); omega))))).other W976 (Or.inr (slot_ne (Or.inl (hw _ (tk 17 rfl))) (Or.inl (hw _ (tk 19 rfl))) (by first | decide | exact Nat.le_of_ble_eq_true rfl | (show _ ≤ (0 + (0 + cpN)); omega)) (t := .int) (t' := .boolean) (by first | decide | exact Nat.le_of_ble_eq_true rfl | (show _ ≤ (0 + (0 + cpN)); omega)) (by first | decide | exact Nat.le_of_ble_eq_true rfl | (show _ ≤ (0 + (0 + cpN)); omega)))))
  refine ⟨_, _, pre0 _ ?_, hrun, hended, _, _, rfl, ?_, ⟨_, rfl⟩, hW, hsame.mono (by first | decide | exact Nat.le_of_ble_eq_true rfl | (show _ ≤ (0 + (0 + cpN)); omega)) (by show (0 + (0 + cpN)) ≤ (0 + (0 + cpN)); omega)⟩
  · show Sp p e below s₁ (mkF m 0 (lt7 r0 p1) []) _
    refine XS.aloadN X0.here hx rfl (hb hby d8_0) rfl rfl ?_
    show Sp p e below s₁ (mkF m 1 (lt7 r0 p1) [(.ref r0)]) _
    refine st956 _ ?_
    show Sp p e below T956 (mkF m 4 (lt7 r0 p1) [(.ref r0_f3)]) _
    refine X956.arraylength hx (by rw [e956]; exact Ar957.1) (State.isArrayOf_alike hZ.alike Ar957.2.1) (g := (mkF m 4 (lt7 r0 p1) [(.ref r0_f3)])) rfl rfl (hb hby d8_4) _ ?_
    rw [len_of Sa957 Ma957]
    show Sp p e below T956 (mkF m 5 (lt7 r0 p1) [(.int x_r0_f3_n)]) _
    refine XS.iloadN X956.here hx rfl (hb hby d8_5) rfl ?_
    show Sp p e below T956 (mkF m 6 (lt7 r0 p1) [(.int p1), (.int x_r0_f3_n)]) _
    refine XS.icmpNo X956.here hx rfl (hb hby d8_6) rfl (tlt as0).2.1 ?_
    show Sp p e below T956 (mkF m 9 (lt7 r0 p1) []) _
    refine XS.iconst X956.here hx rfl (hb hby d8_9) ?_
    refine XS.aloadN X956.here hx rfl (hb hby d8_10) rfl rfl ?_
    show Sp p e below T956 (mkF m 11 (lt7 r0 p1) [(.ref r0), (.int (2 : Int32))]) _
    refine st958 _ ?_
    show Sp p e below T958 (mkF m 14 (lt7 r0 p1) [(.ref r0_f3), (.int (2 : Int32))]) _
    refine X958.arraylength hx (by rw [e958]; exact Ar959.1) (State.isArrayOf_alike hZ.alike Ar959.2.1) (g := (mkF m 14 (lt7 r0 p1) [(.ref r0_f3), (.int (2 : Int32))])) rfl rfl (hb hby d8_14) _ ?_
    rw [len_of Sa959 Ma959]
    show Sp p e below T958 (mkF m 15 (lt7 r0 p1) [(.int x_r0_f3_n), (.int (2 : Int32))]) _
    refine XS.imul X958.here hx rfl (hb hby d8_15) rfl ?_
    refine XS.iloadN X958.here hx rfl (hb hby d8_16) rfl ?_
    show Sp p e below T958 (mkF m 17 (lt7 r0 p1) [(.int p1), (.int ((2 : Int32) * x_r0_f3_n))]) _
    refine st960 _ ?_
    show Sp p e below T960 (mkF m 20 (lt7 r0 p1) [(.int ((2 : Int32) * x_r0_f3_n))]) _
    refine XS.istoreN X960.here hx rfl (hb hby d8_20) rfl (l' := (lt8 r0 p1 ((2 : Int32) * x_r0_f3_n))) rfl ?_
    refine XS.aloadN X960.here hx rfl (hb hby d8_21) rfl rfl ?_
    show Sp p e below T960 (mkF m 22 (lt8 r0 p1 ((2 : Int32) * x_r0_f3_n)) [(.ref r0)]) _
    refine XS.aloadN X960.here hx rfl (hb hby d8_22) rfl rfl ?_
    show Sp p e below T960 (mkF m 23 (lt8 r0 p1 ((2 : Int32) * x_r0_f3_n)) [(.ref r0), (.ref r0)]) _
    refine st961 _ ?_
    show Sp p e below T961 (mkF m 26 (lt8 r0 p1 ((2 : Int32) * x_r0_f3_n)) [(.ref r0_f3), (.ref r0)]) _
    refine XS.iloadN X961.here hx rfl (hb hby d8_26) rfl ?_
    show Sp p e below T961 (mkF m 27 (lt8 r0 p1 ((2 : Int32) * x_r0_f3_n)) [(.int ((2 : Int32) * x_r0_f3_n)), (.ref r0_f3), (.ref r0)]) _
    refine st968 _ ?_
    show Sp p e below T968 (mkF m 30 (lt8 r0 p1 ((2 : Int32) * x_r0_f3_n)) [(.ref b969), (.ref r0)]) _
    refine st973 _ ?_
    show Sp p e below T973 (mkF m 33 (lt8 r0 p1 ((2 : Int32) * x_r0_f3_n)) []) _
    refine XS.aloadN X973.here hx rfl (hb hby d8_33) rfl rfl ?_
    refine XS.iconst X973.here hx rfl (hb hby d8_34) ?_
    show Sp p e below T973 (mkF m 35 (lt8 r0 p1 ((2 : Int32) * x_r0_f3_n)) [(.int (0 : Int32)), (.ref r0)]) _
    refine st976 _ ?_
    show Sp p e below T976 (mkF m 38 (lt8 r0 p1 ((2 : Int32) * x_r0_f3_n)) []) _
    exact X976.returnOut hx Bd.returns (hb hby d8_38) hr
  · show Q8x2 Z w_1 w_2 r0 p1 r0_f3 x_r0_f4 k_r0_f3 x_r0_f3_n x_r0_f3_F cpN h0 n0 _ T976.heap _
    rw [e976]
    exact ⟨b969, k970, rfl, N976, O976, K976, Fw976, c978, c979, g_b969, sz_b969, c977⟩
theorem pn_7x2 : plainName "java/util/BitSet" = true := by first | (simp [plainName, overriddenIn]; done) | decide +kernel
theorem ef_7x2 (m : MethodId) (r0 : Addr) (p1 : Int32) : entryFrame m #[(.ref r0), (.int p1)] 3 = mkF m 0 #[.val (.ref r0), .val (.int p1), .unset] [] := by first | (simp [entryFrame, mkF, argsToLocals, Value.category]; done) | rfl
def Q7x2 (Z : State) (w_1 : Addr) (w_2 : Addr) (r0 : Addr) (p1 : Int32) (r0_f3 : Addr) (x_r0_f4 : Int32) (k_r0_f3 : ClassId) (x_r0_f3_n : Int32) (x_r0_f3_F : Nat → Int64) (cpN : Nat) (h0 : Heap) (n0 : Nat) (v : Option Value) (h : Heap) (L : List Loc) : Prop := ∃ (b981 : Addr) (k982 : ClassId), v = none ∧ Fr n0 L ∧ Old Z n0 h ∧ Keep h0 h [r0] ∧ Fld Z h r0 "java/util/BitSet" "sizeIsSticky" "Z" (.int (0 : Int32)) ∧ Fld Z h r0 "java/util/BitSet" "words" "[J" (.ref b981) ∧ Fld Z h r0 "java/util/BitSet" "wordsInUse" "I" (.int (p1 + (1 : Int32))) ∧ n0 ≤ b981 ∧ h0.size ≤ b981 ∧ Arj Z h b981 k982 ((2 : Int32) * x_r0_f3_n) (ovF x_r0_f3_F (x_r0_f3_n).toNatClampNeg (fun _ => (0 : Int64)))
set_option maxRecDepth 65536 in
set_option maxHeartbeats 40000000 in
theorem rm7x2 (l : Launch) (Z : State) (a0 : Array Value) (hw : ∀ d ∈ tables_1, d.before a0 Z = true) (hv : ∀ d ∈ jdkStatics_1, d.before a0 Z = true) (ws : List Jvm.Cond) (w_1 : Addr) (w_2 : Addr) (hS : StF Z w_1 w_2) (r0 : Addr) (p1 : Int32) (r0_f3 : Addr) (x_r0_f4 : Int32) (k_r0_f3 : ClassId) (x_r0_f3_n : Int32) (x_r0_f3_F : Nat → Int64) (cpN : Nat) (h0 : Heap) (n0 : Nat) (O0 : Old Z n0 h0) (g_r0 : n0 ≤ r0) (g_r0_f3 : n0 ≤ r0_f3) (E_r0 : Exa Z h0 r0 "java/util/BitSet") (F_sizeIsSticky_r0 : Fld Z h0 r0 "java/util/BitSet" "sizeIsSticky" "Z" (.int (0 : Int32))) (F_words_r0 : Fld Z h0 r0 "java/util/BitSet" "words" "[J" (.ref r0_f3)) (F_wordsInUse_r0 : Fld Z h0 r0 "java/util/BitSet" "wordsInUse" "I" (.int x_r0_f4)) (V_r0_f3 : Arj Z h0 r0_f3 k_r0_f3 x_r0_f3_n x_r0_f3_F) (ne_r0_r0_f3 : r0 ≠ r0_f3) (as0 : (x_r0_f4 < (p1 + (1 : Int32)))) (as1 : (x_r0_f3_n < (p1 + (1 : Int32)))) (as2 : ¬ (((2 : Int32) * x_r0_f3_n) < (p1 + (1 : Int32)))) (as3 : ¬ (((2 : Int32) * x_r0_f3_n) = x_r0_f3_n)) (as4 : ¬ (((2 : Int32) * x_r0_f3_n) < (0 : Int32))) (as5 : ¬ (((2 : Int32) * x_r0_f3_n) < x_r0_f3_n)) (hcp : (((2 : Int32) * x_r0_f3_n)).toNatClampNeg ≤ cpN) (hcb : cpN * 8 ≤ 536870912) :
    MetFree l Y18 (head1 (Jvm.Cond.code Y18 jdk_92_method_15_code 3 none :: ws) ({ frames := 3, cells := 1, slots := (0 + (0 + (0 + cpN))), locals := 47 } : Room)) (fun a U => a = #[(.ref r0), (.int p1)] ∧ Z.Warmed39 U.vm ∧ U.heap = h0) (fun _ _ _ _ _ => True) (fun _ U o U' => ∃ v L, o = .returned v ∧ Q7x2 Z w_1 w_2 r0 p1 r0_f3 x_r0_f4 k_r0_f3 x_r0_f3_n x_r0_f3_F cpN h0 n0 v U'.heap L ∧ FrameEnd U o U' L ({ frames := 3, cells := 1, slots := (0 + (0 + (0 + cpN))), locals := 47 } : Room).cells ({ frames := 3, cells := 1, slots := (0 + (0 + (0 + cpN))), locals := 47 } : Room).slots) := by
  refine MetFree.of_bodySF (plainFor_of_name pn_7x2) hisR ?_
  intro p e s m args below meth c s₁ Bd hml0 hP hK
  obtain ⟨rfl, hZ, hh⟩ := hP
  have hx := Bd.exec
  have hby := Bd.bytes
  have hml : c.maxLocals = 3 := hml0
  have hown : s.vm.findClass "java/util/BitSet" = some m.cls := findClass_of_methodNamed Bd.named
  have hnm := (name_of_methodNamed Bd.named Bd.method).1
  have X0 : Stand p l e ({ frames := 3, cells := 1, slots := (0 + (0 + (0 + cpN))), locals := 47 } : Room) s m #[(.ref r0), (.int p1)] below meth c s₁ [] 0 0 := Stand.of_body Bd
  have e0 : s₁.heap = h0 := by rw [← hh, Bd.state]; rfl
  have N0 := Fr.nil n0
  have hS0 := hS
  obtain ⟨S_1, E_1, S_2, E_2, S_3⟩ := hS
  have pre0 : ∀ t, Steps p.tables e below (s₁.setTop (mkF m 0 #[.val (.ref r0), .val (.int p1), .unset] [])) t → Steps p.tables e below (s₁.setTop (entryFrame m #[(.ref r0), (.int p1)] 3)) t := fun t k => castTop (ef_7x2 m r0 p1) k
  generalize hE0 : s₁.setTop (entryFrame m #[(.ref r0), (.int p1)] 3) = E0 at pre0 ⊢
  obtain ⟨T922, X922, e922, st922⟩ := getF X0 hx hZ hown (host := "") (Or.inl (hw _ (tk 16 rfl))) Via.refl e0 F_wordsInUse_r0 (g := (mkF m 5 (lt8 r0 p1 (p1 + (1 : Int32))) [(.ref r0)])) rfl rfl (hb hby d7_5)
  obtain ⟨cq980, q980, q980'⟩ := E_r0.cell
  obtain ⟨_, _, ⟨T980, L980, k980, n980⟩, -, X980, ⟨Lc980, hQ980, l980, y980, z980⟩, st980⟩ := X922.privateBack hx (y := Y17) hown (mvT hZ (hw _ (tk 46 rfl))) (mvT hZ (hw _ (tk 47 rfl))) (mvT hZ (hw _ (tk 49 rfl))) (Cond.privateMethod_at (mvP hZ (hw _ (tk 48 rfl)) (args := #[]))) (mvT hZ (hw _ (tk 50 rfl))) (by first | decide | exact Nat.le_of_ble_eq_true rfl | (show _ ≤ (0 + (0 + (0 + cpN))); omega)) (backOf (W := 0) (rm8x2 l Z a0 hw hv [] w_1 w_2 hS0 r0 (p1 + (1 : Int32)) r0_f3 x_r0_f4 k_r0_f3 x_r0_f3_n x_r0_f3_F cpN h0 n0 O0 g_r0 g_r0_f3 E_r0 F_sizeIsSticky_r0 F_words_r0 F_wordsInUse_r0 V_r0_f3 ne_r0_r0_f3 as1 as2 as3 as4 as5 hcp hcb) hZ (hw _ (tk 50 rfl)) (hw _ (tk 11 rfl)) (by first | decide | exact Nat.le_of_ble_eq_true rfl | (show _ ≤ (0 + (0 + (0 + cpN))); omega)) (by first | decide | exact Nat.le_of_ble_eq_true rfl | (show _ ≤ (0 + (0 + (0 + cpN))); omega))) (g := (mkF m 14 (lt8 r0 p1 (p1 + (1 : Int32))) [(.int (p1 + (1 : Int32))), (.ref r0)])) rfl (by rw [hml]; rfl) (Steps.refl _) (a := r0) (by rw [e922]; exact q980) q980' (argsL := [(.int (p1 + (1 : Int32)))]) (rest := []) (lenOf pd_1 rfl) rfl (by show 2 * 0 + _ ≤ _; exact Nat.le_of_eq rfl) (hb hby d7_14) (fun _ _ => ⟨rfl, e922, (by first | decide | exact Nat.le_of_ble_eq_true rfl | (show _ ≤ (0 + (0 + (0 + cpN))); omega) : 0 + 1 ≤ _), (by show 0 + (0 + (0 + cpN)) ≤ (0 + (0 + (0 + cpN))); omega)⟩)
  dsimp only [Pt.U, Pt.locs, Pt.cells, Pt.slots] at X980 l980 y980 z980 st980 hQ980
  subst l980 y980 z980
  obtain ⟨b981, k982, rv980, N980q, O980, K980c, Fe980_0, Fe980_1, Fe980_2, Fx980_0, Fx980_1, Fx980_2⟩ := hQ980
  subst rv980
  have N980 := Fr.app N0 N980q
  have K980 : Keep h0 T980.heap [r0] := (Keep.refl h0 [r0]).trans K980c (allS (Or.inl (List.mem_of_getElem? (i := 0) rfl)) all0)
  have g_b981 := Fx980_0
  have sz_b981 : h0.size ≤ b981 := Nat.le_trans (Keep.refl h0 [r0]).1 Fx980_1
  have ne_r0_b981 : r0 ≠ b981 := Nat.ne_of_lt (Nat.lt_of_lt_of_le E_r0.lt Fx980_1)
  have ne_r0_f3_b981 : r0_f3 ≠ b981 := Nat.ne_of_lt (Nat.lt_of_lt_of_le V_r0_f3.lt Fx980_1)
  have c983 := (E_r0.keep K980c)
  obtain ⟨T984, h984, X984, e984, W984, st984⟩ := putF X980 hx hZ hown (host := "") (Or.inl (hw _ (tk 16 rfl))) Via.refl rfl Fe980_2 c983 (Or.inl (hw _ (tk 17 rfl))) (hw _ (tk 10 rfl)) (ty := .int) (by first | decide | exact Nat.le_of_ble_eq_true rfl | (show _ ≤ (0 + (0 + (0 + cpN))); omega)) rfl rfl (g := (mkF m 19 (lt8 r0 p1 (p1 + (1 : Int32))) [(.int (p1 + (1 : Int32))), (.ref r0)])) rfl rfl (hb hby d7_19)
  have Fw984 := Fe980_2.same W984
  have O984 : Old Z n0 h984 := O980.wr W984 g_r0
  have N984 := Fr.snoc X984 N980 g_r0
  have K984 : Keep h0 h984 [r0] := K980.wr W984 (Or.inl (List.mem_of_getElem? (i := 0) rfl))
  obtain ⟨fs, hr, hrun, hended, hW, hsame⟩ := X984.leave (v := none) (fun _ => rfl)
  have c985 := (Fx980_2.other W984 (Ne.symm ne_r0_b981))
  have c986 := (Fe980_0.other W984 (Or.inr (slot_ne (Or.inl (hw _ (tk 19 rfl))) (Or.inl (hw _ (tk 17 rfl))) (by first | decide | exact Nat.le_of_ble_eq_true rfl | (show _ ≤ (0 + (0 + (0 + cpN))); omega)) (t := .boolean) (t' := .int) (by first | decide | exact Nat.le_of_ble_eq_true rfl | (show _ ≤ (0 + (0 + (0 + cpN))); omega)) (by first | decide | exact Nat.le_of_ble_eq_true rfl | (show _ ≤ (0 + (0 + (0 + cpN))); omega)))))
  have c987 := (Fe980_1.other W984 (Or.inr (slot_ne (Or.inl (hw _ (tk 30 rfl))) (Or.inl (hw _ (tk 17 rfl))) (by first | decide | exact Nat.le_of_ble_eq_true rfl | (show _ ≤ (0 + (0 + (0 + cpN))); omega)) (t := (.array .long)) (t' := .int) (by first | decide | exact Nat.le_of_ble_eq_true rfl | (show _ ≤ (0 + (0 + (0 + cpN))); omega)) (by first | decide | exact Nat.le_of_ble_eq_true rfl | (show _ ≤ (0 + (0 + (0 + cpN))); omega)))))
  refine ⟨_, _, pre0 _ ?_, hrun, hended, _, _, rfl, ?_, ⟨_, rfl⟩, hW, hsame.mono (by first | decide | exact Nat.le_of_ble_eq_true rfl | (show _ ≤ (0 + (0 + (0 + cpN))); omega)) (by show (0 + (0 + (0 + cpN))) ≤ (0 + (0 + (0 + cpN))); omega)⟩
  · show Sp p e below s₁ (mkF m 0 (lt7 r0 p1) []) _
    refine XS.iloadN X0.here hx rfl (hb hby d7_0) rfl ?_
    refine XS.iconst X0.here hx rfl (hb hby d7_1) ?_
    show Sp p e below s₁ (mkF m 2 (lt7 r0 p1) [(.int (1 : Int32)), (.int p1)]) _
    refine XS.iadd X0.here hx rfl (hb hby d7_2) rfl ?_
    refine XS.istoreN X0.here hx rfl (hb hby d7_3) rfl (l' := (lt8 r0 p1 (p1 + (1 : Int32)))) rfl ?_
    show Sp p e below s₁ (mkF m 4 (lt8 r0 p1 (p1 + (1 : Int32))) []) _
    refine XS.aloadN X0.here hx rfl (hb hby d7_4) rfl rfl ?_
    show Sp p e below s₁ (mkF m 5 (lt8 r0 p1 (p1 + (1 : Int32))) [(.ref r0)]) _
    refine st922 _ ?_
    show Sp p e below T922 (mkF m 8 (lt8 r0 p1 (p1 + (1 : Int32))) [(.int x_r0_f4)]) _
    refine XS.iloadN X922.here hx rfl (hb hby d7_8) rfl ?_
    show Sp p e below T922 (mkF m 9 (lt8 r0 p1 (p1 + (1 : Int32))) [(.int (p1 + (1 : Int32))), (.int x_r0_f4)]) _
    refine XS.icmpNo X922.here hx rfl (hb hby d7_9) rfl (tlt as0).2.1 ?_
    show Sp p e below T922 (mkF m 12 (lt8 r0 p1 (p1 + (1 : Int32))) []) _
    refine XS.aloadN X922.here hx rfl (hb hby d7_12) rfl rfl ?_
    refine XS.iloadN X922.here hx rfl (hb hby d7_13) rfl ?_
    show Sp p e below T922 (mkF m 14 (lt8 r0 p1 (p1 + (1 : Int32))) [(.int (p1 + (1 : Int32))), (.ref r0)]) _
    refine st980.trans ?_
    show Sp p e below T980 (mkF m 17 (lt8 r0 p1 (p1 + (1 : Int32))) []) _
    refine XS.aloadN X980.here hx rfl (hb hby d7_17) rfl rfl ?_
    refine XS.iloadN X980.here hx rfl (hb hby d7_18) rfl ?_
    show Sp p e below T980 (mkF m 19 (lt8 r0 p1 (p1 + (1 : Int32))) [(.int (p1 + (1 : Int32))), (.ref r0)]) _
    refine st984 _ ?_
    show Sp p e below T984 (mkF m 22 (lt8 r0 p1 (p1 + (1 : Int32))) []) _
    exact X984.returnOut hx Bd.returns (hb hby d7_22) hr
  · show Q7x2 Z w_1 w_2 r0 p1 r0_f3 x_r0_f4 k_r0_f3 x_r0_f3_n x_r0_f3_F cpN h0 n0 _ T984.heap _
    rw [e984]
    exact ⟨b981, k982, rfl, N984, O984, K984, c986, c987, Fw984, g_b981, sz_b981, c985⟩
theorem pn_6x2 : plainName "java/util/BitSet" = true := by first | (simp [plainName, overriddenIn]; done) | decide +kernel
theorem ef_6x2 (m : MethodId) (r0 : Addr) (p1 : Int32) : entryFrame m #[(.ref r0), (.int p1)] 3 = mkF m 0 #[.val (.ref r0), .val (.int p1), .unset] [] := by first | (simp [entryFrame, mkF, argsToLocals, Value.category]; done) | rfl
def Q6x2 (Z : State) (w_1 : Addr) (w_2 : Addr) (r0 : Addr) (p1 : Int32) (r0_f3 : Addr) (x_r0_f4 : Int32) (k_r0_f3 : ClassId) (x_r0_f3_n : Int32) (x_r0_f3_F : Nat → Int64) (cpN : Nat) (h0 : Heap) (n0 : Nat) (v : Option Value) (h : Heap) (L : List Loc) : Prop := ∃ (b1163 : Addr) (k1164 : ClassId), v = none ∧ Fr n0 L ∧ Old Z n0 h ∧ Keep h0 h [r0] ∧ Fld Z h r0 "java/util/BitSet" "sizeIsSticky" "Z" (.int (0 : Int32)) ∧ Fld Z h r0 "java/util/BitSet" "words" "[J" (.ref b1163) ∧ Fld Z h r0 "java/util/BitSet" "wordsInUse" "I" (.int ((p1 >>> ((6 : Int32) &&& 31)) + (1 : Int32))) ∧ n0 ≤ b1163 ∧ h0.size ≤ b1163 ∧ Arj Z h b1163 k1164 ((2 : Int32) * x_r0_f3_n) (upF (ovF x_r0_f3_F (x_r0_f3_n).toNatClampNeg (fun _ => (0 : Int64))) ((p1 >>> ((6 : Int32) &&& 31))).toNatClampNeg (((ovF x_r0_f3_F (x_r0_f3_n).toNatClampNeg (fun _ => (0 : Int64))) ((p1 >>> ((6 : Int32) &&& 31))).toNatClampNeg) ||| ((1 : Int64) <<< (p1 &&& 0x3f).toInt64)))
set_option maxRecDepth 65536 in
set_option maxHeartbeats 40000000 in
theorem rm6x2 (l : Launch) (Z : State) (a0 : Array Value) (hw : ∀ d ∈ tables_1, d.before a0 Z = true) (hv : ∀ d ∈ jdkStatics_1, d.before a0 Z = true) (ws : List Jvm.Cond) (w_1 : Addr) (w_2 : Addr) (hS : StF Z w_1 w_2) (r0 : Addr) (p1 : Int32) (r0_f3 : Addr) (x_r0_f4 : Int32) (k_r0_f3 : ClassId) (x_r0_f3_n : Int32) (x_r0_f3_F : Nat → Int64) (cpN : Nat) (h0 : Heap) (n0 : Nat) (O0 : Old Z n0 h0) (g_r0 : n0 ≤ r0) (g_r0_f3 : n0 ≤ r0_f3) (E_r0 : Exa Z h0 r0 "java/util/BitSet") (F_sizeIsSticky_r0 : Fld Z h0 r0 "java/util/BitSet" "sizeIsSticky" "Z" (.int (0 : Int32))) (F_words_r0 : Fld Z h0 r0 "java/util/BitSet" "words" "[J" (.ref r0_f3)) (F_wordsInUse_r0 : Fld Z h0 r0 "java/util/BitSet" "wordsInUse" "I" (.int x_r0_f4)) (V_r0_f3 : Arj Z h0 r0_f3 k_r0_f3 x_r0_f3_n x_r0_f3_F) (ne_r0_r0_f3 : r0 ≠ r0_f3) (as0 : ¬ (p1 < (0 : Int32))) (as1 : (x_r0_f4 < ((p1 >>> ((6 : Int32) &&& 31)) + (1 : Int32)))) (as2 : (x_r0_f3_n < ((p1 >>> ((6 : Int32) &&& 31)) + (1 : Int32)))) (as3 : ¬ (((2 : Int32) * x_r0_f3_n) < ((p1 >>> ((6 : Int32) &&& 31)) + (1 : Int32)))) (as4 : ¬ (((2 : Int32) * x_r0_f3_n) = x_r0_f3_n)) (as5 : ¬ (((2 : Int32) * x_r0_f3_n) < (0 : Int32))) (as6 : ¬ (((2 : Int32) * x_r0_f3_n) < x_r0_f3_n)) (as7 : ((p1 >>> ((6 : Int32) &&& 31)) < ((2 : Int32) * x_r0_f3_n))) (as8 : ¬ ((p1 >>> ((6 : Int32) &&& 31)) < (0 : Int32))) (hcp : (((2 : Int32) * x_r0_f3_n)).toNatClampNeg ≤ cpN) (hcb : cpN * 8 ≤ 536870912) :
    MetFree l Y20 (head1 (Jvm.Cond.code Y20 jdk_92_method_19_code 3 none :: ws) ({ frames := 4, cells := 1, slots := (0 + (0 + (0 + (0 + cpN)))), locals := 61 } : Room)) (fun a U => a = #[(.ref r0), (.int p1)] ∧ Z.Warmed39 U.vm ∧ U.heap = h0) (fun _ _ _ _ _ => True) (fun _ U o U' => ∃ v L, o = .returned v ∧ Q6x2 Z w_1 w_2 r0 p1 r0_f3 x_r0_f4 k_r0_f3 x_r0_f3_n x_r0_f3_F cpN h0 n0 v U'.heap L ∧ FrameEnd U o U' L ({ frames := 4, cells := 1, slots := (0 + (0 + (0 + (0 + cpN)))), locals := 61 } : Room).cells ({ frames := 4, cells := 1, slots := (0 + (0 + (0 + (0 + cpN)))), locals := 61 } : Room).slots) := by
  refine MetFree.of_bodySF (plainFor_of_name pn_6x2) hisR ?_
  intro p e s m args below meth c s₁ Bd hml0 hP hK
  obtain ⟨rfl, hZ, hh⟩ := hP
  have hx := Bd.exec
  have hby := Bd.bytes
  have hml : c.maxLocals = 3 := hml0
  have hown : s.vm.findClass "java/util/BitSet" = some m.cls := findClass_of_methodNamed Bd.named
  have hnm := (name_of_methodNamed Bd.named Bd.method).1
  have X0 : Stand p l e ({ frames := 4, cells := 1, slots := (0 + (0 + (0 + (0 + cpN)))), locals := 61 } : Room) s m #[(.ref r0), (.int p1)] below meth c s₁ [] 0 0 := Stand.of_body Bd
  have e0 : s₁.heap = h0 := by rw [← hh, Bd.state]; rfl
  have N0 := Fr.nil n0
  have hS0 := hS
  obtain ⟨S_1, E_1, S_2, E_2, S_3⟩ := hS
  have pre0 : ∀ t, Steps p.tables e below (s₁.setTop (mkF m 0 #[.val (.ref r0), .val (.int p1), .unset] [])) t → Steps p.tables e below (s₁.setTop (entryFrame m #[(.ref r0), (.int p1)] 3)) t := fun t k => castTop (ef_6x2 m r0 p1) k
  generalize hE0 : s₁.setTop (entryFrame m #[(.ref r0), (.int p1)] 3) = E0 at pre0 ⊢
  obtain ⟨_, _, ⟨T1080, L1080, k1080, n1080⟩, -, X1080, ⟨Lc1080, hQ1080, l1080, y1080, z1080⟩, st1080⟩ := Jvm.LawKit.callS X0 hx (y := Y5) hown (mvT hZ (hw _ (tk 25 rfl))) (mvT hZ (hw _ (tk 26 rfl))) (mvT hZ (hw _ (tk 11 rfl))) (mvT hZ (hw _ (tk 27 rfl))) (by first | decide | exact Nat.le_of_ble_eq_true rfl | (show _ ≤ (0 + (0 + (0 + (0 + cpN)))); omega)) (backOf (W := 0) (rm5 l Z a0 hw hv [] w_1 w_2 hS0 p1 h0 n0 O0) hZ (hw _ (tk 27 rfl)) (hw _ (tk 11 rfl)) (by first | decide | exact Nat.le_of_ble_eq_true rfl | (show _ ≤ (0 + (0 + (0 + (0 + cpN)))); omega)) (by first | decide | exact Nat.le_of_ble_eq_true rfl | (show _ ≤ (0 + (0 + (0 + (0 + cpN)))); omega))) (g := (mkF m 32 (lt7 r0 p1) [(.int p1)])) rfl (by rw [hml]; rfl) (argsL := [(.int p1)]) (rest := []) (lenOf pd_0 rfl) rfl (by show 2 * 0 + _ ≤ _; exact Nat.le_of_eq rfl) (hb hby d6_32) (fun _ _ => ⟨rfl, e0, (by first | decide | exact Nat.le_of_ble_eq_true rfl | (show _ ≤ (0 + (0 + (0 + (0 + cpN)))); omega) : 0 + 0 ≤ _), (by first | decide | exact Nat.le_of_ble_eq_true rfl | (show _ ≤ (0 + (0 + (0 + (0 + cpN)))); omega) : 0 + 0 ≤ _)⟩)
  dsimp only [Pt.U, Pt.locs, Pt.cells, Pt.slots] at X1080 l1080 y1080 z1080 st1080 hQ1080
  subst l1080 y1080 z1080
  obtain ⟨rv1080, N1080q, e1080⟩ := hQ1080
  rw [show sp5 p1 = (p1 >>> ((6 : Int32) &&& 31)) from by unfold sp5; rfl] at rv1080
  subst rv1080
  have N1080 := Fr.app N0 N1080q
  obtain ⟨cq1162, q1162, q1162'⟩ := E_r0.cell
  obtain ⟨_, _, ⟨T1162, L1162, k1162, n1162⟩, -, X1162, ⟨Lc1162, hQ1162, l1162, y1162, z1162⟩, st1162⟩ := X1080.privateBack hx (y := Y18) hown (mvT hZ (hw _ (tk 41 rfl))) (mvT hZ (hw _ (tk 42 rfl))) (mvT hZ (hw _ (tk 44 rfl))) (Cond.privateMethod_at (mvP hZ (hw _ (tk 43 rfl)) (args := #[]))) (mvT hZ (hw _ (tk 45 rfl))) (by first | decide | exact Nat.le_of_ble_eq_true rfl | (show _ ≤ (0 + (0 + (0 + (0 + cpN)))); omega)) (backOf (W := 0) (rm7x2 l Z a0 hw hv [] w_1 w_2 hS0 r0 (p1 >>> ((6 : Int32) &&& 31)) r0_f3 x_r0_f4 k_r0_f3 x_r0_f3_n x_r0_f3_F cpN h0 n0 O0 g_r0 g_r0_f3 E_r0 F_sizeIsSticky_r0 F_words_r0 F_wordsInUse_r0 V_r0_f3 ne_r0_r0_f3 as1 as2 as3 as4 as5 as6 hcp hcb) hZ (hw _ (tk 45 rfl)) (hw _ (tk 11 rfl)) (by first | decide | exact Nat.le_of_ble_eq_true rfl | (show _ ≤ (0 + (0 + (0 + (0 + cpN)))); omega)) (by first | decide | exact Nat.le_of_ble_eq_true rfl | (show _ ≤ (0 + (0 + (0 + (0 + cpN)))); omega))) (g := (mkF m 38 (lt8 r0 p1 (p1 >>> ((6 : Int32) &&& 31))) [(.int (p1 >>> ((6 : Int32) &&& 31))), (.ref r0)])) rfl (by rw [hml]; rfl) (Steps.refl _) (a := r0) (by rw [e1080]; exact q1162) q1162' (argsL := [(.int (p1 >>> ((6 : Int32) &&& 31)))]) (rest := []) (lenOf pd_1 rfl) rfl (by show 2 * 0 + _ ≤ _; exact Nat.le_of_eq rfl) (hb hby d6_38) (fun _ _ => ⟨rfl, e1080, (by first | decide | exact Nat.le_of_ble_eq_true rfl | (show _ ≤ (0 + (0 + (0 + (0 + cpN)))); omega) : 0 + 1 ≤ _), (by show 0 + (0 + (0 + (0 + cpN))) ≤ (0 + (0 + (0 + (0 + cpN)))); omega)⟩)
  dsimp only [Pt.U, Pt.locs, Pt.cells, Pt.slots] at X1162 l1162 y1162 z1162 st1162 hQ1162
  subst l1162 y1162 z1162
  obtain ⟨b1163, k1164, rv1162, N1162q, O1162, K1162c, Fe1162_0, Fe1162_1, Fe1162_2, Fx1162_0, Fx1162_1, Fx1162_2⟩ := hQ1162
  subst rv1162
  have N1162 := Fr.app N1080 N1162q
  have K1162 : Keep h0 T1162.heap [r0] := (Keep.refl h0 [r0]).trans K1162c (allS (Or.inl (List.mem_of_getElem? (i := 0) rfl)) all0)
  have g_b1163 := Fx1162_0
  have sz_b1163 : h0.size ≤ b1163 := Nat.le_trans (Keep.refl h0 [r0]).1 Fx1162_1
  have ne_r0_b1163 : r0 ≠ b1163 := Nat.ne_of_lt (Nat.lt_of_lt_of_le E_r0.lt Fx1162_1)
  have ne_r0_f3_b1163 : r0_f3 ≠ b1163 := Nat.ne_of_lt (Nat.lt_of_lt_of_le V_r0_f3.lt Fx1162_1)
  obtain ⟨T1165, X1165, e1165, st1165⟩ := getF X1162 hx hZ hown (host := "") (Or.inl (hw _ (tk 29 rfl))) Via.refl rfl Fe1162_1 (g := (mkF m 42 (lt8 r0 p1 (p1 >>> ((6 : Int32) &&& 31))) [(.ref r0)])) rfl rfl (hb hby d6_42)
  obtain ⟨cl1166, Ar1166, qa1166, Sa1166, Ma1166, Ha1166, Ga1166⟩ := id Fx1162_2
  have hin1166 : ¬ ((p1 >>> ((6 : Int32) &&& 31)) < 0 ∨ cl1166.slots.size ≤ ((p1 >>> ((6 : Int32) &&& 31))).toNatClampNeg) := by exact inb_of Sa1166 ⟨as8, as7⟩
  have hat1166 : cl1166.slots[((p1 >>> ((6 : Int32) &&& 31))).toNatClampNeg]? = some (.long ((ovF x_r0_f3_F (x_r0_f3_n).toNatClampNeg (fun _ => (0 : Int64))) ((p1 >>> ((6 : Int32) &&& 31))).toNatClampNeg)) := Ha1166 _ (Nat.lt_of_not_le fun y => hin1166 (Or.inr y))
  obtain ⟨cl1167, Ar1167, qa1167, Sa1167, Ma1167, Ha1167, Ga1167⟩ := id Fx1162_2
  have hin1167 : ¬ ((p1 >>> ((6 : Int32) &&& 31)) < 0 ∨ cl1167.slots.size ≤ ((p1 >>> ((6 : Int32) &&& 31))).toNatClampNeg) := by exact inb_of Sa1167 ⟨as8, as7⟩
  obtain ⟨T1168, h1168, X1168, e1168, W1168, st1168⟩ := stJ X1165 hx hZ e1165 Ar1167 (j := (p1 >>> ((6 : Int32) &&& 31))) hin1167 (g := (mkF m 52 (lt8 r0 p1 (p1 >>> ((6 : Int32) &&& 31))) [(.long (((ovF x_r0_f3_F (x_r0_f3_n).toNatClampNeg (fun _ => (0 : Int64))) ((p1 >>> ((6 : Int32) &&& 31))).toNatClampNeg) ||| ((1 : Int64) <<< (p1 &&& 0x3f).toInt64))), (.int (p1 >>> ((6 : Int32) &&& 31))), (.ref b1163)])) rfl rfl (hb hby d6_52)
  have V_b1163_1168 : Arj Z h1168 b1163 k1164 ((2 : Int32) * x_r0_f3_n) (upF (ovF x_r0_f3_F (x_r0_f3_n).toNatClampNeg (fun _ => (0 : Int64))) ((p1 >>> ((6 : Int32) &&& 31))).toNatClampNeg (((ovF x_r0_f3_F (x_r0_f3_n).toNatClampNeg (fun _ => (0 : Int64))) ((p1 >>> ((6 : Int32) &&& 31))).toNatClampNeg) ||| ((1 : Int64) <<< (p1 &&& 0x3f).toInt64))) := Arj.push Ar1167 qa1167 Sa1167 Ma1167 Ha1167 W1168 hin1167
  have O1168 : Old Z n0 h1168 := O1162.wr W1168 g_b1163
  have N1168 := Fr.snoc X1168 N1162 g_b1163
  have K1168 : Keep h0 h1168 [r0] := K1162.wr W1168 (Or.inr sz_b1163)
  have c1169 := ((E_r0.keep K1162c).wr W1168)
  have c1170 := (Fe1162_1.other W1168 (Or.inl ne_r0_b1163))
  have c1171 := (Fe1162_2.other W1168 (Or.inl ne_r0_b1163))
  obtain ⟨cq1172, q1172, q1172'⟩ := c1169.cell
  obtain ⟨_, _, ⟨T1172, L1172, k1172, n1172⟩, -, X1172, ⟨Lc1172, hQ1172, l1172, y1172, z1172⟩, st1172⟩ := X1168.privateBack hx (y := Y19) hown (mvT hZ (hw _ (tk 51 rfl))) (mvT hZ (hw _ (tk 52 rfl))) (mvT hZ (hw _ (tk 54 rfl))) (Cond.privateMethod_at (mvP hZ (hw _ (tk 53 rfl)) (args := #[]))) (mvT hZ (hw _ (tk 55 rfl))) (by first | decide | exact Nat.le_of_ble_eq_true rfl | (show _ ≤ (0 + (0 + (0 + (0 + cpN)))); omega)) (backOf (W := 0) (rm9x1 l Z a0 hw hv [] w_1 w_2 hS0 r0 b1163 ((p1 >>> ((6 : Int32) &&& 31)) + (1 : Int32)) k1164 ((2 : Int32) * x_r0_f3_n) (upF (ovF x_r0_f3_F (x_r0_f3_n).toNatClampNeg (fun _ => (0 : Int64))) ((p1 >>> ((6 : Int32) &&& 31))).toNatClampNeg (((ovF x_r0_f3_F (x_r0_f3_n).toNatClampNeg (fun _ => (0 : Int64))) ((p1 >>> ((6 : Int32) &&& 31))).toNatClampNeg) ||| ((1 : Int64) <<< (p1 &&& 0x3f).toInt64))) h1168 n0 O1168 g_r0 g_b1163 c1169 c1170 c1171 V_b1163_1168 ne_r0_b1163) hZ (hw _ (tk 55 rfl)) (hw _ (tk 11 rfl)) (by first | decide | exact Nat.le_of_ble_eq_true rfl | (show _ ≤ (0 + (0 + (0 + (0 + cpN)))); omega)) (by first | decide | exact Nat.le_of_ble_eq_true rfl | (show _ ≤ (0 + (0 + (0 + (0 + cpN)))); omega))) (g := (mkF m 54 (lt8 r0 p1 (p1 >>> ((6 : Int32) &&& 31))) [(.ref r0)])) rfl (by rw [hml]; rfl) (Steps.refl _) (a := r0) (by rw [e1168]; exact q1172) q1172' (argsL := []) (rest := []) (lenOf pd_2 rfl) rfl (by show 2 * 0 + _ ≤ _; exact Nat.le_of_eq rfl) (hb hby d6_54) (fun _ _ => ⟨rfl, e1168, (by first | decide | exact Nat.le_of_ble_eq_true rfl | (show _ ≤ (0 + (0 + (0 + (0 + cpN)))); omega) : 1 + 0 ≤ _), (by show (0 + (0 + (0 + (0 + cpN)))) + 0 ≤ (0 + (0 + (0 + (0 + cpN)))); omega)⟩)
  dsimp only [Pt.U, Pt.locs, Pt.cells, Pt.slots] at X1172 l1172 y1172 z1172 st1172 hQ1172
  subst l1172 y1172 z1172
  obtain ⟨rv1172, N1172q, e1172⟩ := hQ1172
  subst rv1172
  have N1172 := Fr.app N1168 N1172q
  obtain ⟨fs, hr, hrun, hended, hW, hsame⟩ := X1172.leave (v := none) (fun _ => rfl)
  have c1173 := (Fe1162_0.other W1168 (Or.inl ne_r0_b1163))
  refine ⟨_, _, pre0 _ ?_, hrun, hended, _, _, rfl, ?_, ⟨_, rfl⟩, hW, hsame.mono (by first | decide | exact Nat.le_of_ble_eq_true rfl | (show _ ≤ (0 + (0 + (0 + (0 + cpN)))); omega)) (by show (0 + (0 + (0 + (0 + cpN)))) ≤ (0 + (0 + (0 + (0 + cpN)))); omega)⟩
  · show Sp p e below s₁ (mkF m 0 (lt7 r0 p1) []) _
    refine XS.iloadN X0.here hx rfl (hb hby d6_0) rfl ?_
    show Sp p e below s₁ (mkF m 1 (lt7 r0 p1) [(.int p1)]) _
    refine XS.ifYes X0.here hx rfl (pc0 := 1) (pc' := 31) rfl (hb hby d6_1) rfl ((if0 _ _).trans (flt as0).2.1) (by first | decide | exact Nat.le_of_ble_eq_true rfl | (show _ ≤ (0 + (0 + (0 + (0 + cpN)))); omega)) (by first | decide | exact Nat.le_of_ble_eq_true rfl | (show _ ≤ (0 + (0 + (0 + (0 + cpN)))); omega)) ?_
    show Sp p e below s₁ (mkF m 31 (lt7 r0 p1) []) _
    refine XS.iloadN X0.here hx rfl (hb hby d6_31) rfl ?_
    show Sp p e below s₁ (mkF m 32 (lt7 r0 p1) [(.int p1)]) _
    refine st1080 _ ?_
    show Sp p e below T1080 (mkF m 35 (lt7 r0 p1) [(.int (p1 >>> ((6 : Int32) &&& 31)))]) _
    refine XS.istoreN X1080.here hx rfl (hb hby d6_35) rfl (l' := (lt8 r0 p1 (p1 >>> ((6 : Int32) &&& 31)))) rfl ?_
    refine XS.aloadN X1080.here hx rfl (hb hby d6_36) rfl rfl ?_
    show Sp p e below T1080 (mkF m 37 (lt8 r0 p1 (p1 >>> ((6 : Int32) &&& 31))) [(.ref r0)]) _
    refine XS.iloadN X1080.here hx rfl (hb hby d6_37) rfl ?_
    show Sp p e below T1080 (mkF m 38 (lt8 r0 p1 (p1 >>> ((6 : Int32) &&& 31))) [(.int (p1 >>> ((6 : Int32) &&& 31))), (.ref r0)]) _
    refine st1162.trans ?_
    show Sp p e below T1162 (mkF m 41 (lt8 r0 p1 (p1 >>> ((6 : Int32) &&& 31))) []) _
    refine XS.aloadN X1162.here hx rfl (hb hby d6_41) rfl rfl ?_
    show Sp p e below T1162 (mkF m 42 (lt8 r0 p1 (p1 >>> ((6 : Int32) &&& 31))) [(.ref r0)]) _
    refine st1165 _ ?_
    show Sp p e below T1165 (mkF m 45 (lt8 r0 p1 (p1 >>> ((6 : Int32) &&& 31))) [(.ref b1163)]) _
    refine XS.iloadN X1165.here hx rfl (hb hby d6_45) rfl ?_
    show Sp p e below T1165 (mkF m 46 (lt8 r0 p1 (p1 >>> ((6 : Int32) &&& 31))) [(.int (p1 >>> ((6 : Int32) &&& 31))), (.ref b1163)]) _
    refine XT.dup2 X1165.here hx rfl (hb hby d6_46) rfl rfl rfl ?_
    show Sp p e below T1165 (mkF m 47 (lt8 r0 p1 (p1 >>> ((6 : Int32) &&& 31))) [(.int (p1 >>> ((6 : Int32) &&& 31))), (.ref b1163), (.int (p1 >>> ((6 : Int32) &&& 31))), (.ref b1163)]) _
    refine X1165.laload hx (j := (p1 >>> ((6 : Int32) &&& 31))) (v := (.long ((ovF x_r0_f3_F (x_r0_f3_n).toNatClampNeg (fun _ => (0 : Int64))) ((p1 >>> ((6 : Int32) &&& 31))).toNatClampNeg))) (by rw [e1165]; exact Ar1166.1) (State.isArrayOf_alike hZ.alike Ar1166.2.1) Ar1166.2.2 hin1166 hat1166 (g := (mkF m 47 (lt8 r0 p1 (p1 >>> ((6 : Int32) &&& 31))) [(.int (p1 >>> ((6 : Int32) &&& 31))), (.ref b1163), (.int (p1 >>> ((6 : Int32) &&& 31))), (.ref b1163)])) rfl rfl (hb hby d6_47) _ ?_
    show Sp p e below T1165 (mkF m 48 (lt8 r0 p1 (p1 >>> ((6 : Int32) &&& 31))) [(.long ((ovF x_r0_f3_F (x_r0_f3_n).toNatClampNeg (fun _ => (0 : Int64))) ((p1 >>> ((6 : Int32) &&& 31))).toNatClampNeg)), (.int (p1 >>> ((6 : Int32) &&& 31))), (.ref b1163)]) _
    refine XS.lconst X1165.here hx rfl (hb hby d6_48) ?_
    refine XS.iloadN X1165.here hx rfl (hb hby d6_49) rfl ?_
    show Sp p e below T1165 (mkF m 50 (lt8 r0 p1 (p1 >>> ((6 : Int32) &&& 31))) [(.int p1), (.long (1 : Int64)), (.long ((ovF x_r0_f3_F (x_r0_f3_n).toNatClampNeg (fun _ => (0 : Int64))) ((p1 >>> ((6 : Int32) &&& 31))).toNatClampNeg)), (.int (p1 >>> ((6 : Int32) &&& 31))), (.ref b1163)]) _
    refine XS.lshl X1165.here hx rfl (hb hby d6_50) rfl ?_
    refine XS.lor X1165.here hx rfl (hb hby d6_51) rfl ?_
    show Sp p e below T1165 (mkF m 52 (lt8 r0 p1 (p1 >>> ((6 : Int32) &&& 31))) [(.long (((ovF x_r0_f3_F (x_r0_f3_n).toNatClampNeg (fun _ => (0 : Int64))) ((p1 >>> ((6 : Int32) &&& 31))).toNatClampNeg) ||| ((1 : Int64) <<< (p1 &&& 0x3f).toInt64))), (.int (p1 >>> ((6 : Int32) &&& 31))), (.ref b1163)]) _
    refine st1168 _ ?_
    show Sp p e below T1168 (mkF m 53 (lt8 r0 p1 (p1 >>> ((6 : Int32) &&& 31))) []) _
    refine XS.aloadN X1168.here hx rfl (hb hby d6_53) rfl rfl ?_
    show Sp p e below T1168 (mkF m 54 (lt8 r0 p1 (p1 >>> ((6 : Int32) &&& 31))) [(.ref r0)]) _
    refine st1172.trans ?_
    show Sp p e below T1172 (mkF m 57 (lt8 r0 p1 (p1 >>> ((6 : Int32) &&& 31))) []) _
    exact X1172.returnOut hx Bd.returns (hb hby d6_57) hr
  · show Q6x2 Z w_1 w_2 r0 p1 r0_f3 x_r0_f4 k_r0_f3 x_r0_f3_n x_r0_f3_F cpN h0 n0 _ T1172.heap _
    rw [e1172]
    exact ⟨b1163, k1164, rfl, N1172, O1168, K1168, c1173, c1170, c1171, g_b1163, sz_b1163, V_b1163_1168⟩
theorem pn_8x3 : plainName "java/util/BitSet" = true := by first | (simp [plainName, overriddenIn]; done) | decide +kernel
theorem ef_8x3 (m : MethodId) (r0 : Addr) (p1 : Int32) : entryFrame m #[(.ref r0), (.int p1)] 3 = mkF m 0 #[.val (.ref r0), .val (.int p1), .unset] [] := by first | (simp [entryFrame, mkF, argsToLocals, Value.category]; done) | rfl
def Q8x3 (Z : State) (w_1 : Addr) (w_2 : Addr) (r0 : Addr) (p1 : Int32) (r0_f3 : Addr) (x_r0_f4 : Int32) (k_r0_f3 : ClassId) (x_r0_f3_n : Int32) (x_r0_f3_F : Nat → Int64) (h0 : Heap) (n0 : Nat) (v : Option Value) (h : Heap) (L : List Loc) : Prop := v = none ∧ Fr n0 L ∧ Old Z n0 h ∧ Keep h0 h []
set_option maxRecDepth 65536 in
set_option maxHeartbeats 40000000 in
theorem rm8x3 (l : Launch) (Z : State) (a0 : Array Value) (hw : ∀ d ∈ tables_1, d.before a0 Z = true) (hv : ∀ d ∈ jdkStatics_1, d.before a0 Z = true) (ws : List Jvm.Cond) (w_1 : Addr) (w_2 : Addr) (hS : StF Z w_1 w_2) (r0 : Addr) (p1 : Int32) (r0_f3 : Addr) (x_r0_f4 : Int32) (k_r0_f3 : ClassId) (x_r0_f3_n : Int32) (x_r0_f3_F : Nat → Int64) (h0 : Heap) (n0 : Nat) (O0 : Old Z n0 h0) (g_r0 : n0 ≤ r0) (g_r0_f3 : n0 ≤ r0_f3) (E_r0 : Exa Z h0 r0 "java/util/BitSet") (F_sizeIsSticky_r0 : Fld Z h0 r0 "java/util/BitSet" "sizeIsSticky" "Z" (.int (0 : Int32))) (F_words_r0 : Fld Z h0 r0 "java/util/BitSet" "words" "[J" (.ref r0_f3)) (F_wordsInUse_r0 : Fld Z h0 r0 "java/util/BitSet" "wordsInUse" "I" (.int x_r0_f4)) (V_r0_f3 : Arj Z h0 r0_f3 k_r0_f3 x_r0_f3_n x_r0_f3_F) (ne_r0_r0_f3 : r0 ≠ r0_f3) (as0 : ¬ (x_r0_f3_n < p1)) :
    MetFree l Y17 (head1 (Jvm.Cond.code Y17 jdk_92_method_14_code 3 none :: ws) ({ frames := 0, cells := 0, slots := 0, locals := 0 } : Room)) (fun a U => a = #[(.ref r0), (.int p1)] ∧ Z.Warmed39 U.vm ∧ U.heap = h0) (fun _ _ _ _ _ => True) (fun _ U o U' => ∃ v L, o = .returned v ∧ Q8x3 Z w_1 w_2 r0 p1 r0_f3 x_r0_f4 k_r0_f3 x_r0_f3_n x_r0_f3_F h0 n0 v U'.heap L ∧ FrameEnd U o U' L ({ frames := 0, cells := 0, slots := 0, locals := 0 } : Room).cells ({ frames := 0, cells := 0, slots := 0, locals := 0 } : Room).slots) := by
  refine MetFree.of_bodySF (plainFor_of_name pn_8x3) hisR ?_
  intro p e s m args below meth c s₁ Bd hml0 hP hK
  obtain ⟨rfl, hZ, hh⟩ := hP
  have hx := Bd.exec
  have hby := Bd.bytes
  have hml : c.maxLocals = 3 := hml0
  have hown : s.vm.findClass "java/util/BitSet" = some m.cls := findClass_of_methodNamed Bd.named
  have hnm := (name_of_methodNamed Bd.named Bd.method).1
  have X0 : Stand p l e ({ frames := 0, cells := 0, slots := 0, locals := 0 } : Room) s m #[(.ref r0), (.int p1)] below meth c s₁ [] 0 0 := Stand.of_body Bd
  have e0 : s₁.heap = h0 := by rw [← hh, Bd.state]; rfl
  have N0 := Fr.nil n0
  have hS0 := hS
  obtain ⟨S_1, E_1, S_2, E_2, S_3⟩ := hS
  have pre0 : ∀ t, Steps p.tables e below (s₁.setTop (mkF m 0 #[.val (.ref r0), .val (.int p1), .unset] [])) t → Steps p.tables e below (s₁.setTop (entryFrame m #[(.ref r0), (.int p1)] 3)) t := fun t k => castTop (ef_8x3 m r0 p1) k
  generalize hE0 : s₁.setTop (entryFrame m #[(.ref r0), (.int p1)] 3) = E0 at pre0 ⊢
  obtain ⟨T1564, X1564, e1564, st1564⟩ := getF X0 hx hZ hown (host := "") (Or.inl (hw _ (tk 29 rfl))) Via.refl e0 F_words_r0 (g := (mkF m 1 (lt7 r0 p1) [(.ref r0)])) rfl rfl (hb hby d8_1)
  obtain ⟨cl1565, Ar1565, qa1565, Sa1565, Ma1565, Ha1565, Ga1565⟩ := id V_r0_f3
  obtain ⟨fs, hr, hrun, hended, hW, hsame⟩ := X1564.leave (v := none) (fun _ => rfl)
  refine ⟨_, _, pre0 _ ?_, hrun, hended, _, _, rfl, ?_, ⟨_, rfl⟩, hW, hsame.mono (by decide) (by decide)⟩
  · show Sp p e below s₁ (mkF m 0 (lt7 r0 p1) []) _
    refine XS.aloadN X0.here hx rfl (hb hby d8_0) rfl rfl ?_
    show Sp p e below s₁ (mkF m 1 (lt7 r0 p1) [(.ref r0)]) _
    refine st1564 _ ?_
    show Sp p e below T1564 (mkF m 4 (lt7 r0 p1) [(.ref r0_f3)]) _
    refine X1564.arraylength hx (by rw [e1564]; exact Ar1565.1) (State.isArrayOf_alike hZ.alike Ar1565.2.1) (g := (mkF m 4 (lt7 r0 p1) [(.ref r0_f3)])) rfl rfl (hb hby d8_4) _ ?_
    rw [len_of Sa1565 Ma1565]
    show Sp p e below T1564 (mkF m 5 (lt7 r0 p1) [(.int x_r0_f3_n)]) _
    refine XS.iloadN X1564.here hx rfl (hb hby d8_5) rfl ?_
    show Sp p e below T1564 (mkF m 6 (lt7 r0 p1) [(.int p1), (.int x_r0_f3_n)]) _
    refine XS.icmpYes X1564.here hx rfl (pc0 := 6) (pc' := 38) rfl (hb hby d8_6) rfl (flt as0).2.1 (by decide) (by decide) ?_
    show Sp p e below T1564 (mkF m 38 (lt7 r0 p1) []) _
    exact X1564.returnOut hx Bd.returns (hb hby d8_38) hr
  · show Q8x3 Z w_1 w_2 r0 p1 r0_f3 x_r0_f4 k_r0_f3 x_r0_f3_n x_r0_f3_F h0 n0 _ T1564.heap _
    rw [e1564]
    exact ⟨rfl, N0, O0, (Keep.refl h0 [])⟩
theorem pn_7x3 : plainName "java/util/BitSet" = true := by first | (simp [plainName, overriddenIn]; done) | decide +kernel
theorem ef_7x3 (m : MethodId) (r0 : Addr) (p1 : Int32) : entryFrame m #[(.ref r0), (.int p1)] 3 = mkF m 0 #[.val (.ref r0), .val (.int p1), .unset] [] := by first | (simp [entryFrame, mkF, argsToLocals, Value.category]; done) | rfl
def Q7x3 (Z : State) (w_1 : Addr) (w_2 : Addr) (r0 : Addr) (p1 : Int32) (r0_f3 : Addr) (x_r0_f4 : Int32) (k_r0_f3 : ClassId) (x_r0_f3_n : Int32) (x_r0_f3_F : Nat → Int64) (h0 : Heap) (n0 : Nat) (v : Option Value) (h : Heap) (L : List Loc) : Prop := v = none ∧ Fr n0 L ∧ Old Z n0 h ∧ Keep h0 h [r0] ∧ Fld Z h r0 "java/util/BitSet" "sizeIsSticky" "Z" (.int (0 : Int32)) ∧ Fld Z h r0 "java/util/BitSet" "words" "[J" (.ref r0_f3) ∧ Fld Z h r0 "java/util/BitSet" "wordsInUse" "I" (.int (p1 + (1 : Int32)))
set_option maxRecDepth 65536 in
set_option maxHeartbeats 40000000 in
theorem rm7x3 (l : Launch) (Z : State) (a0 : Array Value) (hw : ∀ d ∈ tables_1, d.before a0 Z = true) (hv : ∀ d ∈ jdkStatics_1, d.before a0 Z = true) (ws : List Jvm.Cond) (w_1 : Addr) (w_2 : Addr) (hS : StF Z w_1 w_2) (r0 : Addr) (p1 : Int32) (r0_f3 : Addr) (x_r0_f4 : Int32) (k_r0_f3 : ClassId) (x_r0_f3_n : Int32) (x_r0_f3_F : Nat → Int64) (h0 : Heap) (n0 : Nat) (O0 : Old Z n0 h0) (g_r0 : n0 ≤ r0) (g_r0_f3 : n0 ≤ r0_f3) (E_r0 : Exa Z h0 r0 "java/util/BitSet") (F_sizeIsSticky_r0 : Fld Z h0 r0 "java/util/BitSet" "sizeIsSticky" "Z" (.int (0 : Int32))) (F_words_r0 : Fld Z h0 r0 "java/util/BitSet" "words" "[J" (.ref r0_f3)) (F_wordsInUse_r0 : Fld Z h0 r0 "java/util/BitSet" "wordsInUse" "I" (.int x_r0_f4)) (V_r0_f3 : Arj Z h0 r0_f3 k_r0_f3 x_r0_f3_n x_r0_f3_F) (ne_r0_r0_f3 : r0 ≠ r0_f3) (as0 : (x_r0_f4 < (p1 + (1 : Int32)))) (as1 : ¬ (x_r0_f3_n < (p1 + (1 : Int32)))) :
    MetFree l Y18 (head1 (Jvm.Cond.code Y18 jdk_92_method_15_code 3 none :: ws) ({ frames := 1, cells := 0, slots := 0, locals := 14 } : Room)) (fun a U => a = #[(.ref r0), (.int p1)] ∧ Z.Warmed39 U.vm ∧ U.heap = h0) (fun _ _ _ _ _ => True) (fun _ U o U' => ∃ v L, o = .returned v ∧ Q7x3 Z w_1 w_2 r0 p1 r0_f3 x_r0_f4 k_r0_f3 x_r0_f3_n x_r0_f3_F h0 n0 v U'.heap L ∧ FrameEnd U o U' L ({ frames := 1, cells := 0, slots := 0, locals := 14 } : Room).cells ({ frames := 1, cells := 0, slots := 0, locals := 14 } : Room).slots) := by
  refine MetFree.of_bodySF (plainFor_of_name pn_7x3) hisR ?_
  intro p e s m args below meth c s₁ Bd hml0 hP hK
  obtain ⟨rfl, hZ, hh⟩ := hP
  have hx := Bd.exec
  have hby := Bd.bytes
  have hml : c.maxLocals = 3 := hml0
  have hown : s.vm.findClass "java/util/BitSet" = some m.cls := findClass_of_methodNamed Bd.named
  have hnm := (name_of_methodNamed Bd.named Bd.method).1
  have X0 : Stand p l e ({ frames := 1, cells := 0, slots := 0, locals := 14 } : Room) s m #[(.ref r0), (.int p1)] below meth c s₁ [] 0 0 := Stand.of_body Bd
  have e0 : s₁.heap = h0 := by rw [← hh, Bd.state]; rfl
  have N0 := Fr.nil n0
  have hS0 := hS
  obtain ⟨S_1, E_1, S_2, E_2, S_3⟩ := hS
  have pre0 : ∀ t, Steps p.tables e below (s₁.setTop (mkF m 0 #[.val (.ref r0), .val (.int p1), .unset] [])) t → Steps p.tables e below (s₁.setTop (entryFrame m #[(.ref r0), (.int p1)] 3)) t := fun t k => castTop (ef_7x3 m r0 p1) k
  generalize hE0 : s₁.setTop (entryFrame m #[(.ref r0), (.int p1)] 3) = E0 at pre0 ⊢
  obtain ⟨T1561, X1561, e1561, st1561⟩ := getF X0 hx hZ hown (host := "") (Or.inl (hw _ (tk 16 rfl))) Via.refl e0 F_wordsInUse_r0 (g := (mkF m 5 (lt8 r0 p1 (p1 + (1 : Int32))) [(.ref r0)])) rfl rfl (hb hby d7_5)
  obtain ⟨cq1566, q1566, q1566'⟩ := E_r0.cell
  obtain ⟨_, _, ⟨T1566, L1566, k1566, n1566⟩, -, X1566, ⟨Lc1566, hQ1566, l1566, y1566, z1566⟩, st1566⟩ := X1561.privateBack hx (y := Y17) hown (mvT hZ (hw _ (tk 46 rfl))) (mvT hZ (hw _ (tk 47 rfl))) (mvT hZ (hw _ (tk 49 rfl))) (Cond.privateMethod_at (mvP hZ (hw _ (tk 48 rfl)) (args := #[]))) (mvT hZ (hw _ (tk 50 rfl))) (by decide) (backOf (W := 0) (rm8x3 l Z a0 hw hv [] w_1 w_2 hS0 r0 (p1 + (1 : Int32)) r0_f3 x_r0_f4 k_r0_f3 x_r0_f3_n x_r0_f3_F h0 n0 O0 g_r0 g_r0_f3 E_r0 F_sizeIsSticky_r0 F_words_r0 F_wordsInUse_r0 V_r0_f3 ne_r0_r0_f3 as1) hZ (hw _ (tk 50 rfl)) (hw _ (tk 11 rfl)) (by decide) (by decide)) (g := (mkF m 14 (lt8 r0 p1 (p1 + (1 : Int32))) [(.int (p1 + (1 : Int32))), (.ref r0)])) rfl (by rw [hml]; rfl) (Steps.refl _) (a := r0) (by rw [e1561]; exact q1566) q1566' (argsL := [(.int (p1 + (1 : Int32)))]) (rest := []) (lenOf pd_1 rfl) rfl (by show 2 * 0 + _ ≤ _; exact Nat.le_of_eq rfl) (hb hby d7_14) (fun _ _ => ⟨rfl, e1561, (by decide : 0 + 0 ≤ _), (by decide : 0 + 0 ≤ _)⟩)
  dsimp only [Pt.U, Pt.locs, Pt.cells, Pt.slots] at X1566 l1566 y1566 z1566 st1566 hQ1566
  subst l1566 y1566 z1566
  obtain ⟨rv1566, N1566q, O1566, K1566c⟩ := hQ1566
  subst rv1566
  have N1566 := Fr.app N0 N1566q
  have K1566 : Keep h0 T1566.heap [r0] := (Keep.refl h0 [r0]).trans K1566c all0
  have c1567 := (E_r0.keep K1566c)
  have c1568 := (F_wordsInUse_r0.keep K1566c nin0)
  obtain ⟨T1569, h1569, X1569, e1569, W1569, st1569⟩ := putF X1566 hx hZ hown (host := "") (Or.inl (hw _ (tk 16 rfl))) Via.refl rfl c1568 c1567 (Or.inl (hw _ (tk 17 rfl))) (hw _ (tk 10 rfl)) (ty := .int) (by decide) rfl rfl (g := (mkF m 19 (lt8 r0 p1 (p1 + (1 : Int32))) [(.int (p1 + (1 : Int32))), (.ref r0)])) rfl rfl (hb hby d7_19)
  have Fw1569 := c1568.same W1569
  have O1569 : Old Z n0 h1569 := O1566.wr W1569 g_r0
  have N1569 := Fr.snoc X1569 N1566 g_r0
  have K1569 : Keep h0 h1569 [r0] := K1566.wr W1569 (Or.inl (List.mem_of_getElem? (i := 0) rfl))
  obtain ⟨fs, hr, hrun, hended, hW, hsame⟩ := X1569.leave (v := none) (fun _ => rfl)
  have c1570 := ((F_sizeIsSticky_r0.keep K1566c nin0).other W1569 (Or.inr (slot_ne (Or.inl (hw _ (tk 19 rfl))) (Or.inl (hw _ (tk 17 rfl))) (by decide) (t := .boolean) (t' := .int) (by decide) (by decide))))
  have c1571 := ((F_words_r0.keep K1566c nin0).other W1569 (Or.inr (slot_ne (Or.inl (hw _ (tk 30 rfl))) (Or.inl (hw _ (tk 17 rfl))) (by decide) (t := (.array .long)) (t' := .int) (by decide) (by decide))))
  refine ⟨_, _, pre0 _ ?_, hrun, hended, _, _, rfl, ?_, ⟨_, rfl⟩, hW, hsame.mono (by decide) (by decide)⟩
  · show Sp p e below s₁ (mkF m 0 (lt7 r0 p1) []) _
    refine XS.iloadN X0.here hx rfl (hb hby d7_0) rfl ?_
    refine XS.iconst X0.here hx rfl (hb hby d7_1) ?_
    show Sp p e below s₁ (mkF m 2 (lt7 r0 p1) [(.int (1 : Int32)), (.int p1)]) _
    refine XS.iadd X0.here hx rfl (hb hby d7_2) rfl ?_
    refine XS.istoreN X0.here hx rfl (hb hby d7_3) rfl (l' := (lt8 r0 p1 (p1 + (1 : Int32)))) rfl ?_
    show Sp p e below s₁ (mkF m 4 (lt8 r0 p1 (p1 + (1 : Int32))) []) _
    refine XS.aloadN X0.here hx rfl (hb hby d7_4) rfl rfl ?_
    show Sp p e below s₁ (mkF m 5 (lt8 r0 p1 (p1 + (1 : Int32))) [(.ref r0)]) _
    refine st1561 _ ?_
    show Sp p e below T1561 (mkF m 8 (lt8 r0 p1 (p1 + (1 : Int32))) [(.int x_r0_f4)]) _
    refine XS.iloadN X1561.here hx rfl (hb hby d7_8) rfl ?_
    show Sp p e below T1561 (mkF m 9 (lt8 r0 p1 (p1 + (1 : Int32))) [(.int (p1 + (1 : Int32))), (.int x_r0_f4)]) _
    refine XS.icmpNo X1561.here hx rfl (hb hby d7_9) rfl (tlt as0).2.1 ?_
    show Sp p e below T1561 (mkF m 12 (lt8 r0 p1 (p1 + (1 : Int32))) []) _
    refine XS.aloadN X1561.here hx rfl (hb hby d7_12) rfl rfl ?_
    refine XS.iloadN X1561.here hx rfl (hb hby d7_13) rfl ?_
    show Sp p e below T1561 (mkF m 14 (lt8 r0 p1 (p1 + (1 : Int32))) [(.int (p1 + (1 : Int32))), (.ref r0)]) _
    refine st1566.trans ?_
    show Sp p e below T1566 (mkF m 17 (lt8 r0 p1 (p1 + (1 : Int32))) []) _
    refine XS.aloadN X1566.here hx rfl (hb hby d7_17) rfl rfl ?_
    refine XS.iloadN X1566.here hx rfl (hb hby d7_18) rfl ?_
    show Sp p e below T1566 (mkF m 19 (lt8 r0 p1 (p1 + (1 : Int32))) [(.int (p1 + (1 : Int32))), (.ref r0)]) _
    refine st1569 _ ?_
    show Sp p e below T1569 (mkF m 22 (lt8 r0 p1 (p1 + (1 : Int32))) []) _
    exact X1569.returnOut hx Bd.returns (hb hby d7_22) hr
  · show Q7x3 Z w_1 w_2 r0 p1 r0_f3 x_r0_f4 k_r0_f3 x_r0_f3_n x_r0_f3_F h0 n0 _ T1569.heap _
    rw [e1569]
    exact ⟨rfl, N1569, O1569, K1569, c1570, c1571, Fw1569⟩
theorem pn_6x3 : plainName "java/util/BitSet" = true := by first | (simp [plainName, overriddenIn]; done) | decide +kernel
theorem ef_6x3 (m : MethodId) (r0 : Addr) (p1 : Int32) : entryFrame m #[(.ref r0), (.int p1)] 3 = mkF m 0 #[.val (.ref r0), .val (.int p1), .unset] [] := by first | (simp [entryFrame, mkF, argsToLocals, Value.category]; done) | rfl
def Q6x3 (Z : State) (w_1 : Addr) (w_2 : Addr) (r0 : Addr) (p1 : Int32) (r0_f3 : Addr) (x_r0_f4 : Int32) (k_r0_f3 : ClassId) (x_r0_f3_n : Int32) (x_r0_f3_F : Nat → Int64) (h0 : Heap) (n0 : Nat) (v : Option Value) (h : Heap) (L : List Loc) : Prop := v = none ∧ Fr n0 L ∧ Old Z n0 h ∧ Keep h0 h [r0, r0_f3] ∧ Fld Z h r0 "java/util/BitSet" "sizeIsSticky" "Z" (.int (0 : Int32)) ∧ Fld Z h r0 "java/util/BitSet" "words" "[J" (.ref r0_f3) ∧ Fld Z h r0 "java/util/BitSet" "wordsInUse" "I" (.int ((p1 >>> ((6 : Int32) &&& 31)) + (1 : Int32))) ∧ Arj Z h r0_f3 k_r0_f3 x_r0_f3_n (upF x_r0_f3_F ((p1 >>> ((6 : Int32) &&& 31))).toNatClampNeg ((x_r0_f3_F ((p1 >>> ((6 : Int32) &&& 31))).toNatClampNeg) ||| ((1 : Int64) <<< (p1 &&& 0x3f).toInt64)))
set_option maxRecDepth 65536 in
set_option maxHeartbeats 40000000 in
theorem rm6x3 (l : Launch) (Z : State) (a0 : Array Value) (hw : ∀ d ∈ tables_1, d.before a0 Z = true) (hv : ∀ d ∈ jdkStatics_1, d.before a0 Z = true) (ws : List Jvm.Cond) (w_1 : Addr) (w_2 : Addr) (hS : StF Z w_1 w_2) (r0 : Addr) (p1 : Int32) (r0_f3 : Addr) (x_r0_f4 : Int32) (k_r0_f3 : ClassId) (x_r0_f3_n : Int32) (x_r0_f3_F : Nat → Int64) (h0 : Heap) (n0 : Nat) (O0 : Old Z n0 h0) (g_r0 : n0 ≤ r0) (g_r0_f3 : n0 ≤ r0_f3) (E_r0 : Exa Z h0 r0 "java/util/BitSet") (F_sizeIsSticky_r0 : Fld Z h0 r0 "java/util/BitSet" "sizeIsSticky" "Z" (.int (0 : Int32))) (F_words_r0 : Fld Z h0 r0 "java/util/BitSet" "words" "[J" (.ref r0_f3)) (F_wordsInUse_r0 : Fld Z h0 r0 "java/util/BitSet" "wordsInUse" "I" (.int x_r0_f4)) (V_r0_f3 : Arj Z h0 r0_f3 k_r0_f3 x_r0_f3_n x_r0_f3_F) (ne_r0_r0_f3 : r0 ≠ r0_f3) (as0 : ¬ (p1 < (0 : Int32))) (as1 : (x_r0_f4 < ((p1 >>> ((6 : Int32) &&& 31)) + (1 : Int32)))) (as2 : ¬ (x_r0_f3_n < ((p1 >>> ((6 : Int32) &&& 31)) + (1 : Int32)))) (as3 : ((p1 >>> ((6 : Int32) &&& 31)) < x_r0_f3_n)) (as4 : ¬ ((p1 >>> ((6 : Int32) &&& 31)) < (0 : Int32))) :
    MetFree l Y20 (head1 (Jvm.Cond.code Y20 jdk_92_method_19_code 3 none :: ws) ({ frames := 2, cells := 0, slots := 0, locals := 28 } : Room)) (fun a U => a = #[(.ref r0), (.int p1)] ∧ Z.Warmed39 U.vm ∧ U.heap = h0) (fun _ _ _ _ _ => True) (fun _ U o U' => ∃ v L, o = .returned v ∧ Q6x3 Z w_1 w_2 r0 p1 r0_f3 x_r0_f4 k_r0_f3 x_r0_f3_n x_r0_f3_F h0 n0 v U'.heap L ∧ FrameEnd U o U' L ({ frames := 2, cells := 0, slots := 0, locals := 28 } : Room).cells ({ frames := 2, cells := 0, slots := 0, locals := 28 } : Room).slots) := by
  refine MetFree.of_bodySF (plainFor_of_name pn_6x3) hisR ?_
  intro p e s m args below meth c s₁ Bd hml0 hP hK
  obtain ⟨rfl, hZ, hh⟩ := hP
  have hx := Bd.exec
  have hby := Bd.bytes
  have hml : c.maxLocals = 3 := hml0
  have hown : s.vm.findClass "java/util/BitSet" = some m.cls := findClass_of_methodNamed Bd.named
  have hnm := (name_of_methodNamed Bd.named Bd.method).1
  have X0 : Stand p l e ({ frames := 2, cells := 0, slots := 0, locals := 28 } : Room) s m #[(.ref r0), (.int p1)] below meth c s₁ [] 0 0 := Stand.of_body Bd
  have e0 : s₁.heap = h0 := by rw [← hh, Bd.state]; rfl
  have N0 := Fr.nil n0
  have hS0 := hS
  obtain ⟨S_1, E_1, S_2, E_2, S_3⟩ := hS
  have pre0 : ∀ t, Steps p.tables e below (s₁.setTop (mkF m 0 #[.val (.ref r0), .val (.int p1), .unset] [])) t → Steps p.tables e below (s₁.setTop (entryFrame m #[(.ref r0), (.int p1)] 3)) t := fun t k => castTop (ef_6x3 m r0 p1) k
  generalize hE0 : s₁.setTop (entryFrame m #[(.ref r0), (.int p1)] 3) = E0 at pre0 ⊢
  obtain ⟨_, _, ⟨T1585, L1585, k1585, n1585⟩, -, X1585, ⟨Lc1585, hQ1585, l1585, y1585, z1585⟩, st1585⟩ := Jvm.LawKit.callS X0 hx (y := Y5) hown (mvT hZ (hw _ (tk 25 rfl))) (mvT hZ (hw _ (tk 26 rfl))) (mvT hZ (hw _ (tk 11 rfl))) (mvT hZ (hw _ (tk 27 rfl))) (by decide) (backOf (W := 0) (rm5 l Z a0 hw hv [] w_1 w_2 hS0 p1 h0 n0 O0) hZ (hw _ (tk 27 rfl)) (hw _ (tk 11 rfl)) (by decide) (by decide)) (g := (mkF m 32 (lt7 r0 p1) [(.int p1)])) rfl (by rw [hml]; rfl) (argsL := [(.int p1)]) (rest := []) (lenOf pd_0 rfl) rfl (by show 2 * 0 + _ ≤ _; exact Nat.le_of_eq rfl) (hb hby d6_32) (fun _ _ => ⟨rfl, e0, (by decide : 0 + 0 ≤ _), (by decide : 0 + 0 ≤ _)⟩)
  dsimp only [Pt.U, Pt.locs, Pt.cells, Pt.slots] at X1585 l1585 y1585 z1585 st1585 hQ1585
  subst l1585 y1585 z1585
  obtain ⟨rv1585, N1585q, e1585⟩ := hQ1585
  rw [show sp5 p1 = (p1 >>> ((6 : Int32) &&& 31)) from by unfold sp5; rfl] at rv1585
  subst rv1585
  have N1585 := Fr.app N0 N1585q
  obtain ⟨cq1590, q1590, q1590'⟩ := E_r0.cell
  obtain ⟨_, _, ⟨T1590, L1590, k1590, n1590⟩, -, X1590, ⟨Lc1590, hQ1590, l1590, y1590, z1590⟩, st1590⟩ := X1585.privateBack hx (y := Y18) hown (mvT hZ (hw _ (tk 41 rfl))) (mvT hZ (hw _ (tk 42 rfl))) (mvT hZ (hw _ (tk 44 rfl))) (Cond.privateMethod_at (mvP hZ (hw _ (tk 43 rfl)) (args := #[]))) (mvT hZ (hw _ (tk 45 rfl))) (by decide) (backOf (W := 0) (rm7x3 l Z a0 hw hv [] w_1 w_2 hS0 r0 (p1 >>> ((6 : Int32) &&& 31)) r0_f3 x_r0_f4 k_r0_f3 x_r0_f3_n x_r0_f3_F h0 n0 O0 g_r0 g_r0_f3 E_r0 F_sizeIsSticky_r0 F_words_r0 F_wordsInUse_r0 V_r0_f3 ne_r0_r0_f3 as1 as2) hZ (hw _ (tk 45 rfl)) (hw _ (tk 11 rfl)) (by decide) (by decide)) (g := (mkF m 38 (lt8 r0 p1 (p1 >>> ((6 : Int32) &&& 31))) [(.int (p1 >>> ((6 : Int32) &&& 31))), (.ref r0)])) rfl (by rw [hml]; rfl) (Steps.refl _) (a := r0) (by rw [e1585]; exact q1590) q1590' (argsL := [(.int (p1 >>> ((6 : Int32) &&& 31)))]) (rest := []) (lenOf pd_1 rfl) rfl (by show 2 * 0 + _ ≤ _; exact Nat.le_of_eq rfl) (hb hby d6_38) (fun _ _ => ⟨rfl, e1585, (by decide : 0 + 0 ≤ _), (by decide : 0 + 0 ≤ _)⟩)
  dsimp only [Pt.U, Pt.locs, Pt.cells, Pt.slots] at X1590 l1590 y1590 z1590 st1590 hQ1590
  subst l1590 y1590 z1590
  obtain ⟨rv1590, N1590q, O1590, K1590c, Fe1590_0, Fe1590_1, Fe1590_2⟩ := hQ1590
  subst rv1590
  have N1590 := Fr.app N1585 N1590q
  have K1590 : Keep h0 T1590.heap [r0, r0_f3] := (Keep.refl h0 [r0, r0_f3]).trans K1590c (allS (Or.inl (List.mem_of_getElem? (i := 0) rfl)) all0)
  obtain ⟨T1591, X1591, e1591, st1591⟩ := getF X1590 hx hZ hown (host := "") (Or.inl (hw _ (tk 29 rfl))) Via.refl rfl Fe1590_1 (g := (mkF m 42 (lt8 r0 p1 (p1 >>> ((6 : Int32) &&& 31))) [(.ref r0)])) rfl rfl (hb hby d6_42)
  have c1592 := (V_r0_f3.keep K1590c (ninS (Ne.symm ne_r0_r0_f3) nin0))
  obtain ⟨cl1593, Ar1593, qa1593, Sa1593, Ma1593, Ha1593, Ga1593⟩ := id c1592
  have hin1593 : ¬ ((p1 >>> ((6 : Int32) &&& 31)) < 0 ∨ cl1593.slots.size ≤ ((p1 >>> ((6 : Int32) &&& 31))).toNatClampNeg) := by exact inb_of Sa1593 ⟨as4, as3⟩
  have hat1593 : cl1593.slots[((p1 >>> ((6 : Int32) &&& 31))).toNatClampNeg]? = some (.long (x_r0_f3_F ((p1 >>> ((6 : Int32) &&& 31))).toNatClampNeg)) := Ha1593 _ (Nat.lt_of_not_le fun y => hin1593 (Or.inr y))
  obtain ⟨cl1594, Ar1594, qa1594, Sa1594, Ma1594, Ha1594, Ga1594⟩ := id c1592
  have hin1594 : ¬ ((p1 >>> ((6 : Int32) &&& 31)) < 0 ∨ cl1594.slots.size ≤ ((p1 >>> ((6 : Int32) &&& 31))).toNatClampNeg) := by exact inb_of Sa1594 ⟨as4, as3⟩
  obtain ⟨T1595, h1595, X1595, e1595, W1595, st1595⟩ := stJ X1591 hx hZ e1591 Ar1594 (j := (p1 >>> ((6 : Int32) &&& 31))) hin1594 (g := (mkF m 52 (lt8 r0 p1 (p1 >>> ((6 : Int32) &&& 31))) [(.long ((x_r0_f3_F ((p1 >>> ((6 : Int32) &&& 31))).toNatClampNeg) ||| ((1 : Int64) <<< (p1 &&& 0x3f).toInt64))), (.int (p1 >>> ((6 : Int32) &&& 31))), (.ref r0_f3)])) rfl rfl (hb hby d6_52)
  have V_r0_f3_1595 : Arj Z h1595 r0_f3 k_r0_f3 x_r0_f3_n (upF x_r0_f3_F ((p1 >>> ((6 : Int32) &&& 31))).toNatClampNeg ((x_r0_f3_F ((p1 >>> ((6 : Int32) &&& 31))).toNatClampNeg) ||| ((1 : Int64) <<< (p1 &&& 0x3f).toInt64))) := Arj.push Ar1594 qa1594 Sa1594 Ma1594 Ha1594 W1595 hin1594
  have O1595 : Old Z n0 h1595 := O1590.wr W1595 g_r0_f3
  have N1595 := Fr.snoc X1595 N1590 g_r0_f3
  have K1595 : Keep h0 h1595 [r0, r0_f3] := K1590.wr W1595 (Or.inl (List.mem_of_getElem? (i := 1) rfl))
  have c1596 := ((E_r0.keep K1590c).wr W1595)
  have c1597 := (Fe1590_1.other W1595 (Or.inl ne_r0_r0_f3))
  have c1598 := (Fe1590_2.other W1595 (Or.inl ne_r0_r0_f3))
  obtain ⟨cq1599, q1599, q1599'⟩ := c1596.cell
  obtain ⟨_, _, ⟨T1599, L1599, k1599, n1599⟩, -, X1599, ⟨Lc1599, hQ1599, l1599, y1599, z1599⟩, st1599⟩ := X1595.privateBack hx (y := Y19) hown (mvT hZ (hw _ (tk 51 rfl))) (mvT hZ (hw _ (tk 52 rfl))) (mvT hZ (hw _ (tk 54 rfl))) (Cond.privateMethod_at (mvP hZ (hw _ (tk 53 rfl)) (args := #[]))) (mvT hZ (hw _ (tk 55 rfl))) (by decide) (backOf (W := 0) (rm9x1 l Z a0 hw hv [] w_1 w_2 hS0 r0 r0_f3 ((p1 >>> ((6 : Int32) &&& 31)) + (1 : Int32)) k_r0_f3 x_r0_f3_n (upF x_r0_f3_F ((p1 >>> ((6 : Int32) &&& 31))).toNatClampNeg ((x_r0_f3_F ((p1 >>> ((6 : Int32) &&& 31))).toNatClampNeg) ||| ((1 : Int64) <<< (p1 &&& 0x3f).toInt64))) h1595 n0 O1595 g_r0 g_r0_f3 c1596 c1597 c1598 V_r0_f3_1595 ne_r0_r0_f3) hZ (hw _ (tk 55 rfl)) (hw _ (tk 11 rfl)) (by decide) (by decide)) (g := (mkF m 54 (lt8 r0 p1 (p1 >>> ((6 : Int32) &&& 31))) [(.ref r0)])) rfl (by rw [hml]; rfl) (Steps.refl _) (a := r0) (by rw [e1595]; exact q1599) q1599' (argsL := []) (rest := []) (lenOf pd_2 rfl) rfl (by show 2 * 0 + _ ≤ _; exact Nat.le_of_eq rfl) (hb hby d6_54) (fun _ _ => ⟨rfl, e1595, (by decide : 0 + 0 ≤ _), (by decide : 0 + 0 ≤ _)⟩)
  dsimp only [Pt.U, Pt.locs, Pt.cells, Pt.slots] at X1599 l1599 y1599 z1599 st1599 hQ1599
  subst l1599 y1599 z1599
  obtain ⟨rv1599, N1599q, e1599⟩ := hQ1599
  subst rv1599
  have N1599 := Fr.app N1595 N1599q
  obtain ⟨fs, hr, hrun, hended, hW, hsame⟩ := X1599.leave (v := none) (fun _ => rfl)
  have c1600 := (Fe1590_0.other W1595 (Or.inl ne_r0_r0_f3))
  refine ⟨_, _, pre0 _ ?_, hrun, hended, _, _, rfl, ?_, ⟨_, rfl⟩, hW, hsame.mono (by decide) (by decide)⟩
  · show Sp p e below s₁ (mkF m 0 (lt7 r0 p1) []) _
    refine XS.iloadN X0.here hx rfl (hb hby d6_0) rfl ?_
    show Sp p e below s₁ (mkF m 1 (lt7 r0 p1) [(.int p1)]) _
    refine XS.ifYes X0.here hx rfl (pc0 := 1) (pc' := 31) rfl (hb hby d6_1) rfl ((if0 _ _).trans (flt as0).2.1) (by decide) (by decide) ?_
    show Sp p e below s₁ (mkF m 31 (lt7 r0 p1) []) _
    refine XS.iloadN X0.here hx rfl (hb hby d6_31) rfl ?_
    show Sp p e below s₁ (mkF m 32 (lt7 r0 p1) [(.int p1)]) _
    refine st1585 _ ?_
    show Sp p e below T1585 (mkF m 35 (lt7 r0 p1) [(.int (p1 >>> ((6 : Int32) &&& 31)))]) _
    refine XS.istoreN X1585.here hx rfl (hb hby d6_35) rfl (l' := (lt8 r0 p1 (p1 >>> ((6 : Int32) &&& 31)))) rfl ?_
    refine XS.aloadN X1585.here hx rfl (hb hby d6_36) rfl rfl ?_
    show Sp p e below T1585 (mkF m 37 (lt8 r0 p1 (p1 >>> ((6 : Int32) &&& 31))) [(.ref r0)]) _
    refine XS.iloadN X1585.here hx rfl (hb hby d6_37) rfl ?_
    show Sp p e below T1585 (mkF m 38 (lt8 r0 p1 (p1 >>> ((6 : Int32) &&& 31))) [(.int (p1 >>> ((6 : Int32) &&& 31))), (.ref r0)]) _
    refine st1590.trans ?_
    show Sp p e below T1590 (mkF m 41 (lt8 r0 p1 (p1 >>> ((6 : Int32) &&& 31))) []) _
    refine XS.aloadN X1590.here hx rfl (hb hby d6_41) rfl rfl ?_
    show Sp p e below T1590 (mkF m 42 (lt8 r0 p1 (p1 >>> ((6 : Int32) &&& 31))) [(.ref r0)]) _
    refine st1591 _ ?_
    show Sp p e below T1591 (mkF m 45 (lt8 r0 p1 (p1 >>> ((6 : Int32) &&& 31))) [(.ref r0_f3)]) _
    refine XS.iloadN X1591.here hx rfl (hb hby d6_45) rfl ?_
    show Sp p e below T1591 (mkF m 46 (lt8 r0 p1 (p1 >>> ((6 : Int32) &&& 31))) [(.int (p1 >>> ((6 : Int32) &&& 31))), (.ref r0_f3)]) _
    refine XT.dup2 X1591.here hx rfl (hb hby d6_46) rfl rfl rfl ?_
    show Sp p e below T1591 (mkF m 47 (lt8 r0 p1 (p1 >>> ((6 : Int32) &&& 31))) [(.int (p1 >>> ((6 : Int32) &&& 31))), (.ref r0_f3), (.int (p1 >>> ((6 : Int32) &&& 31))), (.ref r0_f3)]) _
    refine X1591.laload hx (j := (p1 >>> ((6 : Int32) &&& 31))) (v := (.long (x_r0_f3_F ((p1 >>> ((6 : Int32) &&& 31))).toNatClampNeg))) (by rw [e1591]; exact Ar1593.1) (State.isArrayOf_alike hZ.alike Ar1593.2.1) Ar1593.2.2 hin1593 hat1593 (g := (mkF m 47 (lt8 r0 p1 (p1 >>> ((6 : Int32) &&& 31))) [(.int (p1 >>> ((6 : Int32) &&& 31))), (.ref r0_f3), (.int (p1 >>> ((6 : Int32) &&& 31))), (.ref r0_f3)])) rfl rfl (hb hby d6_47) _ ?_
    show Sp p e below T1591 (mkF m 48 (lt8 r0 p1 (p1 >>> ((6 : Int32) &&& 31))) [(.long (x_r0_f3_F ((p1 >>> ((6 : Int32) &&& 31))).toNatClampNeg)), (.int (p1 >>> ((6 : Int32) &&& 31))), (.ref r0_f3)]) _
    refine XS.lconst X1591.here hx rfl (hb hby d6_48) ?_
    refine XS.iloadN X1591.here hx rfl (hb hby d6_49) rfl ?_
    show Sp p e below T1591 (mkF m 50 (lt8 r0 p1 (p1 >>> ((6 : Int32) &&& 31))) [(.int p1), (.long (1 : Int64)), (.long (x_r0_f3_F ((p1 >>> ((6 : Int32) &&& 31))).toNatClampNeg)), (.int (p1 >>> ((6 : Int32) &&& 31))), (.ref r0_f3)]) _
    refine XS.lshl X1591.here hx rfl (hb hby d6_50) rfl ?_
    refine XS.lor X1591.here hx rfl (hb hby d6_51) rfl ?_
    show Sp p e below T1591 (mkF m 52 (lt8 r0 p1 (p1 >>> ((6 : Int32) &&& 31))) [(.long ((x_r0_f3_F ((p1 >>> ((6 : Int32) &&& 31))).toNatClampNeg) ||| ((1 : Int64) <<< (p1 &&& 0x3f).toInt64))), (.int (p1 >>> ((6 : Int32) &&& 31))), (.ref r0_f3)]) _
    refine st1595 _ ?_
    show Sp p e below T1595 (mkF m 53 (lt8 r0 p1 (p1 >>> ((6 : Int32) &&& 31))) []) _
    refine XS.aloadN X1595.here hx rfl (hb hby d6_53) rfl rfl ?_
    show Sp p e below T1595 (mkF m 54 (lt8 r0 p1 (p1 >>> ((6 : Int32) &&& 31))) [(.ref r0)]) _
    refine st1599.trans ?_
    show Sp p e below T1599 (mkF m 57 (lt8 r0 p1 (p1 >>> ((6 : Int32) &&& 31))) []) _
    exact X1599.returnOut hx Bd.returns (hb hby d6_57) hr
  · show Q6x3 Z w_1 w_2 r0 p1 r0_f3 x_r0_f4 k_r0_f3 x_r0_f3_n x_r0_f3_F h0 n0 _ T1599.heap _
    rw [e1599]
    exact ⟨rfl, N1599, O1595, K1595, c1600, c1597, c1598, V_r0_f3_1595⟩
theorem pn_7x4 : plainName "java/util/BitSet" = true := by first | (simp [plainName, overriddenIn]; done) | decide +kernel
theorem ef_7x4 (m : MethodId) (r0 : Addr) (p1 : Int32) : entryFrame m #[(.ref r0), (.int p1)] 3 = mkF m 0 #[.val (.ref r0), .val (.int p1), .unset] [] := by first | (simp [entryFrame, mkF, argsToLocals, Value.category]; done) | rfl
def Q7x4 (Z : State) (w_1 : Addr) (w_2 : Addr) (r0 : Addr) (p1 : Int32) (r0_f3 : Addr) (x_r0_f4 : Int32) (k_r0_f3 : ClassId) (x_r0_f3_n : Int32) (x_r0_f3_F : Nat → Int64) (h0 : Heap) (n0 : Nat) (v : Option Value) (h : Heap) (L : List Loc) : Prop := v = none ∧ Fr n0 L ∧ Old Z n0 h ∧ Keep h0 h []
set_option maxRecDepth 65536 in
set_option maxHeartbeats 40000000 in
theorem rm7x4 (l : Launch) (Z : State) (a0 : Array Value) (hw : ∀ d ∈ tables_1, d.before a0 Z = true) (hv : ∀ d ∈ jdkStatics_1, d.before a0 Z = true) (ws : List Jvm.Cond) (w_1 : Addr) (w_2 : Addr) (hS : StF Z w_1 w_2) (r0 : Addr) (p1 : Int32) (r0_f3 : Addr) (x_r0_f4 : Int32) (k_r0_f3 : ClassId) (x_r0_f3_n : Int32) (x_r0_f3_F : Nat → Int64) (h0 : Heap) (n0 : Nat) (O0 : Old Z n0 h0) (g_r0 : n0 ≤ r0) (g_r0_f3 : n0 ≤ r0_f3) (E_r0 : Exa Z h0 r0 "java/util/BitSet") (F_sizeIsSticky_r0 : Fld Z h0 r0 "java/util/BitSet" "sizeIsSticky" "Z" (.int (0 : Int32))) (F_words_r0 : Fld Z h0 r0 "java/util/BitSet" "words" "[J" (.ref r0_f3)) (F_wordsInUse_r0 : Fld Z h0 r0 "java/util/BitSet" "wordsInUse" "I" (.int x_r0_f4)) (V_r0_f3 : Arj Z h0 r0_f3 k_r0_f3 x_r0_f3_n x_r0_f3_F) (ne_r0_r0_f3 : r0 ≠ r0_f3) (as0 : ¬ (x_r0_f4 < (p1 + (1 : Int32)))) :
    MetFree l Y18 (head1 (Jvm.Cond.code Y18 jdk_92_method_15_code 3 none :: ws) ({ frames := 0, cells := 0, slots := 0, locals := 0 } : Room)) (fun a U => a = #[(.ref r0), (.int p1)] ∧ Z.Warmed39 U.vm ∧ U.heap = h0) (fun _ _ _ _ _ => True) (fun _ U o U' => ∃ v L, o = .returned v ∧ Q7x4 Z w_1 w_2 r0 p1 r0_f3 x_r0_f4 k_r0_f3 x_r0_f3_n x_r0_f3_F h0 n0 v U'.heap L ∧ FrameEnd U o U' L ({ frames := 0, cells := 0, slots := 0, locals := 0 } : Room).cells ({ frames := 0, cells := 0, slots := 0, locals := 0 } : Room).slots) := by
  refine MetFree.of_bodySF (plainFor_of_name pn_7x4) hisR ?_
  intro p e s m args below meth c s₁ Bd hml0 hP hK
  obtain ⟨rfl, hZ, hh⟩ := hP
  have hx := Bd.exec
  have hby := Bd.bytes
  have hml : c.maxLocals = 3 := hml0
  have hown : s.vm.findClass "java/util/BitSet" = some m.cls := findClass_of_methodNamed Bd.named
  have hnm := (name_of_methodNamed Bd.named Bd.method).1
  have X0 : Stand p l e ({ frames := 0, cells := 0, slots := 0, locals := 0 } : Room) s m #[(.ref r0), (.int p1)] below meth c s₁ [] 0 0 := Stand.of_body Bd
  have e0 : s₁.heap = h0 := by rw [← hh, Bd.state]; rfl
  have N0 := Fr.nil n0
  have hS0 := hS
  obtain ⟨S_1, E_1, S_2, E_2, S_3⟩ := hS
  have pre0 : ∀ t, Steps p.tables e below (s₁.setTop (mkF m 0 #[.val (.ref r0), .val (.int p1), .unset] [])) t → Steps p.tables e below (s₁.setTop (entryFrame m #[(.ref r0), (.int p1)] 3)) t := fun t k => castTop (ef_7x4 m r0 p1) k
  generalize hE0 : s₁.setTop (entryFrame m #[(.ref r0), (.int p1)] 3) = E0 at pre0 ⊢
  obtain ⟨T1616, X1616, e1616, st1616⟩ := getF X0 hx hZ hown (host := "") (Or.inl (hw _ (tk 16 rfl))) Via.refl e0 F_wordsInUse_r0 (g := (mkF m 5 (lt8 r0 p1 (p1 + (1 : Int32))) [(.ref r0)])) rfl rfl (hb hby d7_5)
  obtain ⟨fs, hr, hrun, hended, hW, hsame⟩ := X1616.leave (v := none) (fun _ => rfl)
  refine ⟨_, _, pre0 _ ?_, hrun, hended, _, _, rfl, ?_, ⟨_, rfl⟩, hW, hsame.mono (by decide) (by decide)⟩
  · show Sp p e below s₁ (mkF m 0 (lt7 r0 p1) []) _
    refine XS.iloadN X0.here hx rfl (hb hby d7_0) rfl ?_
    refine XS.iconst X0.here hx rfl (hb hby d7_1) ?_
    show Sp p e below s₁ (mkF m 2 (lt7 r0 p1) [(.int (1 : Int32)), (.int p1)]) _
    refine XS.iadd X0.here hx rfl (hb hby d7_2) rfl ?_
    refine XS.istoreN X0.here hx rfl (hb hby d7_3) rfl (l' := (lt8 r0 p1 (p1 + (1 : Int32)))) rfl ?_
    show Sp p e below s₁ (mkF m 4 (lt8 r0 p1 (p1 + (1 : Int32))) []) _
    refine XS.aloadN X0.here hx rfl (hb hby d7_4) rfl rfl ?_
    show Sp p e below s₁ (mkF m 5 (lt8 r0 p1 (p1 + (1 : Int32))) [(.ref r0)]) _
    refine st1616 _ ?_
    show Sp p e below T1616 (mkF m 8 (lt8 r0 p1 (p1 + (1 : Int32))) [(.int x_r0_f4)]) _
    refine XS.iloadN X1616.here hx rfl (hb hby d7_8) rfl ?_
    show Sp p e below T1616 (mkF m 9 (lt8 r0 p1 (p1 + (1 : Int32))) [(.int (p1 + (1 : Int32))), (.int x_r0_f4)]) _
    refine XS.icmpYes X1616.here hx rfl (pc0 := 9) (pc' := 22) rfl (hb hby d7_9) rfl (flt as0).2.1 (by decide) (by decide) ?_
    show Sp p e below T1616 (mkF m 22 (lt8 r0 p1 (p1 + (1 : Int32))) []) _
    exact X1616.returnOut hx Bd.returns (hb hby d7_22) hr
  · show Q7x4 Z w_1 w_2 r0 p1 r0_f3 x_r0_f4 k_r0_f3 x_r0_f3_n x_r0_f3_F h0 n0 _ T1616.heap _
    rw [e1616]
    exact ⟨rfl, N0, O0, (Keep.refl h0 [])⟩
theorem pn_6x4 : plainName "java/util/BitSet" = true := by first | (simp [plainName, overriddenIn]; done) | decide +kernel
theorem ef_6x4 (m : MethodId) (r0 : Addr) (p1 : Int32) : entryFrame m #[(.ref r0), (.int p1)] 3 = mkF m 0 #[.val (.ref r0), .val (.int p1), .unset] [] := by first | (simp [entryFrame, mkF, argsToLocals, Value.category]; done) | rfl
def Q6x4 (Z : State) (w_1 : Addr) (w_2 : Addr) (r0 : Addr) (p1 : Int32) (r0_f3 : Addr) (x_r0_f4 : Int32) (k_r0_f3 : ClassId) (x_r0_f3_n : Int32) (x_r0_f3_F : Nat → Int64) (h0 : Heap) (n0 : Nat) (v : Option Value) (h : Heap) (L : List Loc) : Prop := v = none ∧ Fr n0 L ∧ Old Z n0 h ∧ Keep h0 h [r0_f3] ∧ Arj Z h r0_f3 k_r0_f3 x_r0_f3_n (upF x_r0_f3_F ((p1 >>> ((6 : Int32) &&& 31))).toNatClampNeg ((x_r0_f3_F ((p1 >>> ((6 : Int32) &&& 31))).toNatClampNeg) ||| ((1 : Int64) <<< (p1 &&& 0x3f).toInt64)))
set_option maxRecDepth 65536 in
set_option maxHeartbeats 40000000 in
theorem rm6x4 (l : Launch) (Z : State) (a0 : Array Value) (hw : ∀ d ∈ tables_1, d.before a0 Z = true) (hv : ∀ d ∈ jdkStatics_1, d.before a0 Z = true) (ws : List Jvm.Cond) (w_1 : Addr) (w_2 : Addr) (hS : StF Z w_1 w_2) (r0 : Addr) (p1 : Int32) (r0_f3 : Addr) (x_r0_f4 : Int32) (k_r0_f3 : ClassId) (x_r0_f3_n : Int32) (x_r0_f3_F : Nat → Int64) (h0 : Heap) (n0 : Nat) (O0 : Old Z n0 h0) (g_r0 : n0 ≤ r0) (g_r0_f3 : n0 ≤ r0_f3) (E_r0 : Exa Z h0 r0 "java/util/BitSet") (F_sizeIsSticky_r0 : Fld Z h0 r0 "java/util/BitSet" "sizeIsSticky" "Z" (.int (0 : Int32))) (F_words_r0 : Fld Z h0 r0 "java/util/BitSet" "words" "[J" (.ref r0_f3)) (F_wordsInUse_r0 : Fld Z h0 r0 "java/util/BitSet" "wordsInUse" "I" (.int x_r0_f4)) (V_r0_f3 : Arj Z h0 r0_f3 k_r0_f3 x_r0_f3_n x_r0_f3_F) (ne_r0_r0_f3 : r0 ≠ r0_f3) (as0 : ¬ (p1 < (0 : Int32))) (as1 : ¬ (x_r0_f4 < ((p1 >>> ((6 : Int32) &&& 31)) + (1 : Int32)))) (as2 : ((p1 >>> ((6 : Int32) &&& 31)) < x_r0_f3_n)) (as3 : ¬ ((p1 >>> ((6 : Int32) &&& 31)) < (0 : Int32))) :
    MetFree l Y20 (head1 (Jvm.Cond.code Y20 jdk_92_method_19_code 3 none :: ws) ({ frames := 1, cells := 0, slots := 0, locals := 14 } : Room)) (fun a U => a = #[(.ref r0), (.int p1)] ∧ Z.Warmed39 U.vm ∧ U.heap = h0) (fun _ _ _ _ _ => True) (fun _ U o U' => ∃ v L, o = .returned v ∧ Q6x4 Z w_1 w_2 r0 p1 r0_f3 x_r0_f4 k_r0_f3 x_r0_f3_n x_r0_f3_F h0 n0 v U'.heap L ∧ FrameEnd U o U' L ({ frames := 1, cells := 0, slots := 0, locals := 14 } : Room).cells ({ frames := 1, cells := 0, slots := 0, locals := 14 } : Room).slots) := by
  refine MetFree.of_bodySF (plainFor_of_name pn_6x4) hisR ?_
  intro p e s m args below meth c s₁ Bd hml0 hP hK
  obtain ⟨rfl, hZ, hh⟩ := hP
  have hx := Bd.exec
  have hby := Bd.bytes
  have hml : c.maxLocals = 3 := hml0
  have hown : s.vm.findClass "java/util/BitSet" = some m.cls := findClass_of_methodNamed Bd.named
  have hnm := (name_of_methodNamed Bd.named Bd.method).1
  have X0 : Stand p l e ({ frames := 1, cells := 0, slots := 0, locals := 14 } : Room) s m #[(.ref r0), (.int p1)] below meth c s₁ [] 0 0 := Stand.of_body Bd
  have e0 : s₁.heap = h0 := by rw [← hh, Bd.state]; rfl
  have N0 := Fr.nil n0
  have hS0 := hS
  obtain ⟨S_1, E_1, S_2, E_2, S_3⟩ := hS
  have pre0 : ∀ t, Steps p.tables e below (s₁.setTop (mkF m 0 #[.val (.ref r0), .val (.int p1), .unset] [])) t → Steps p.tables e below (s₁.setTop (entryFrame m #[(.ref r0), (.int p1)] 3)) t := fun t k => castTop (ef_6x4 m r0 p1) k
  generalize hE0 : s₁.setTop (entryFrame m #[(.ref r0), (.int p1)] 3) = E0 at pre0 ⊢
  obtain ⟨_, _, ⟨T1629, L1629, k1629, n1629⟩, -, X1629, ⟨Lc1629, hQ1629, l1629, y1629, z1629⟩, st1629⟩ := Jvm.LawKit.callS X0 hx (y := Y5) hown (mvT hZ (hw _ (tk 25 rfl))) (mvT hZ (hw _ (tk 26 rfl))) (mvT hZ (hw _ (tk 11 rfl))) (mvT hZ (hw _ (tk 27 rfl))) (by decide) (backOf (W := 0) (rm5 l Z a0 hw hv [] w_1 w_2 hS0 p1 h0 n0 O0) hZ (hw _ (tk 27 rfl)) (hw _ (tk 11 rfl)) (by decide) (by decide)) (g := (mkF m 32 (lt7 r0 p1) [(.int p1)])) rfl (by rw [hml]; rfl) (argsL := [(.int p1)]) (rest := []) (lenOf pd_0 rfl) rfl (by show 2 * 0 + _ ≤ _; exact Nat.le_of_eq rfl) (hb hby d6_32) (fun _ _ => ⟨rfl, e0, (by decide : 0 + 0 ≤ _), (by decide : 0 + 0 ≤ _)⟩)
  dsimp only [Pt.U, Pt.locs, Pt.cells, Pt.slots] at X1629 l1629 y1629 z1629 st1629 hQ1629
  subst l1629 y1629 z1629
  obtain ⟨rv1629, N1629q, e1629⟩ := hQ1629
  rw [show sp5 p1 = (p1 >>> ((6 : Int32) &&& 31)) from by unfold sp5; rfl] at rv1629
  subst rv1629
  have N1629 := Fr.app N0 N1629q
  obtain ⟨cq1631, q1631, q1631'⟩ := E_r0.cell
  obtain ⟨_, _, ⟨T1631, L1631, k1631, n1631⟩, -, X1631, ⟨Lc1631, hQ1631, l1631, y1631, z1631⟩, st1631⟩ := X1629.privateBack hx (y := Y18) hown (mvT hZ (hw _ (tk 41 rfl))) (mvT hZ (hw _ (tk 42 rfl))) (mvT hZ (hw _ (tk 44 rfl))) (Cond.privateMethod_at (mvP hZ (hw _ (tk 43 rfl)) (args := #[]))) (mvT hZ (hw _ (tk 45 rfl))) (by decide) (backOf (W := 0) (rm7x4 l Z a0 hw hv [] w_1 w_2 hS0 r0 (p1 >>> ((6 : Int32) &&& 31)) r0_f3 x_r0_f4 k_r0_f3 x_r0_f3_n x_r0_f3_F h0 n0 O0 g_r0 g_r0_f3 E_r0 F_sizeIsSticky_r0 F_words_r0 F_wordsInUse_r0 V_r0_f3 ne_r0_r0_f3 as1) hZ (hw _ (tk 45 rfl)) (hw _ (tk 11 rfl)) (by decide) (by decide)) (g := (mkF m 38 (lt8 r0 p1 (p1 >>> ((6 : Int32) &&& 31))) [(.int (p1 >>> ((6 : Int32) &&& 31))), (.ref r0)])) rfl (by rw [hml]; rfl) (Steps.refl _) (a := r0) (by rw [e1629]; exact q1631) q1631' (argsL := [(.int (p1 >>> ((6 : Int32) &&& 31)))]) (rest := []) (lenOf pd_1 rfl) rfl (by show 2 * 0 + _ ≤ _; exact Nat.le_of_eq rfl) (hb hby d6_38) (fun _ _ => ⟨rfl, e1629, (by decide : 0 + 0 ≤ _), (by decide : 0 + 0 ≤ _)⟩)
  dsimp only [Pt.U, Pt.locs, Pt.cells, Pt.slots] at X1631 l1631 y1631 z1631 st1631 hQ1631
  subst l1631 y1631 z1631
  obtain ⟨rv1631, N1631q, O1631, K1631c⟩ := hQ1631
  subst rv1631
  have N1631 := Fr.app N1629 N1631q
  have K1631 : Keep h0 T1631.heap [r0_f3] := (Keep.refl h0 [r0_f3]).trans K1631c all0
  have c1632 := (F_words_r0.keep K1631c nin0)
  obtain ⟨T1633, X1633, e1633, st1633⟩ := getF X1631 hx hZ hown (host := "") (Or.inl (hw _ (tk 29 rfl))) Via.refl rfl c1632 (g := (mkF m 42 (lt8 r0 p1 (p1 >>> ((6 : Int32) &&& 31))) [(.ref r0)])) rfl rfl (hb hby d6_42)
  have c1634 := (V_r0_f3.keep K1631c nin0)
  obtain ⟨cl1635, Ar1635, qa1635, Sa1635, Ma1635, Ha1635, Ga1635⟩ := id c1634
  have hin1635 : ¬ ((p1 >>> ((6 : Int32) &&& 31)) < 0 ∨ cl1635.slots.size ≤ ((p1 >>> ((6 : Int32) &&& 31))).toNatClampNeg) := by exact inb_of Sa1635 ⟨as3, as2⟩
  have hat1635 : cl1635.slots[((p1 >>> ((6 : Int32) &&& 31))).toNatClampNeg]? = some (.long (x_r0_f3_F ((p1 >>> ((6 : Int32) &&& 31))).toNatClampNeg)) := Ha1635 _ (Nat.lt_of_not_le fun y => hin1635 (Or.inr y))
  obtain ⟨cl1636, Ar1636, qa1636, Sa1636, Ma1636, Ha1636, Ga1636⟩ := id c1634
  have hin1636 : ¬ ((p1 >>> ((6 : Int32) &&& 31)) < 0 ∨ cl1636.slots.size ≤ ((p1 >>> ((6 : Int32) &&& 31))).toNatClampNeg) := by exact inb_of Sa1636 ⟨as3, as2⟩
  obtain ⟨T1637, h1637, X1637, e1637, W1637, st1637⟩ := stJ X1633 hx hZ e1633 Ar1636 (j := (p1 >>> ((6 : Int32) &&& 31))) hin1636 (g := (mkF m 52 (lt8 r0 p1 (p1 >>> ((6 : Int32) &&& 31))) [(.long ((x_r0_f3_F ((p1 >>> ((6 : Int32) &&& 31))).toNatClampNeg) ||| ((1 : Int64) <<< (p1 &&& 0x3f).toInt64))), (.int (p1 >>> ((6 : Int32) &&& 31))), (.ref r0_f3)])) rfl rfl (hb hby d6_52)
  have V_r0_f3_1637 : Arj Z h1637 r0_f3 k_r0_f3 x_r0_f3_n (upF x_r0_f3_F ((p1 >>> ((6 : Int32) &&& 31))).toNatClampNeg ((x_r0_f3_F ((p1 >>> ((6 : Int32) &&& 31))).toNatClampNeg) ||| ((1 : Int64) <<< (p1 &&& 0x3f).toInt64))) := Arj.push Ar1636 qa1636 Sa1636 Ma1636 Ha1636 W1637 hin1636
  have O1637 : Old Z n0 h1637 := O1631.wr W1637 g_r0_f3
  have N1637 := Fr.snoc X1637 N1631 g_r0_f3
  have K1637 : Keep h0 h1637 [r0_f3] := K1631.wr W1637 (Or.inl (List.mem_of_getElem? (i := 0) rfl))
  have c1638 := ((E_r0.keep K1631c).wr W1637)
  have c1639 := (c1632.other W1637 (Or.inl ne_r0_r0_f3))
  have c1640 := ((F_wordsInUse_r0.keep K1631c nin0).other W1637 (Or.inl ne_r0_r0_f3))
  obtain ⟨cq1641, q1641, q1641'⟩ := c1638.cell
  obtain ⟨_, _, ⟨T1641, L1641, k1641, n1641⟩, -, X1641, ⟨Lc1641, hQ1641, l1641, y1641, z1641⟩, st1641⟩ := X1637.privateBack hx (y := Y19) hown (mvT hZ (hw _ (tk 51 rfl))) (mvT hZ (hw _ (tk 52 rfl))) (mvT hZ (hw _ (tk 54 rfl))) (Cond.privateMethod_at (mvP hZ (hw _ (tk 53 rfl)) (args := #[]))) (mvT hZ (hw _ (tk 55 rfl))) (by decide) (backOf (W := 0) (rm9x1 l Z a0 hw hv [] w_1 w_2 hS0 r0 r0_f3 x_r0_f4 k_r0_f3 x_r0_f3_n (upF x_r0_f3_F ((p1 >>> ((6 : Int32) &&& 31))).toNatClampNeg ((x_r0_f3_F ((p1 >>> ((6 : Int32) &&& 31))).toNatClampNeg) ||| ((1 : Int64) <<< (p1 &&& 0x3f).toInt64))) h1637 n0 O1637 g_r0 g_r0_f3 c1638 c1639 c1640 V_r0_f3_1637 ne_r0_r0_f3) hZ (hw _ (tk 55 rfl)) (hw _ (tk 11 rfl)) (by decide) (by decide)) (g := (mkF m 54 (lt8 r0 p1 (p1 >>> ((6 : Int32) &&& 31))) [(.ref r0)])) rfl (by rw [hml]; rfl) (Steps.refl _) (a := r0) (by rw [e1637]; exact q1641) q1641' (argsL := []) (rest := []) (lenOf pd_2 rfl) rfl (by show 2 * 0 + _ ≤ _; exact Nat.le_of_eq rfl) (hb hby d6_54) (fun _ _ => ⟨rfl, e1637, (by decide : 0 + 0 ≤ _), (by decide : 0 + 0 ≤ _)⟩)
  dsimp only [Pt.U, Pt.locs, Pt.cells, Pt.slots] at X1641 l1641 y1641 z1641 st1641 hQ1641
  subst l1641 y1641 z1641
  obtain ⟨rv1641, N1641q, e1641⟩ := hQ1641
  subst rv1641
  have N1641 := Fr.app N1637 N1641q
  obtain ⟨fs, hr, hrun, hended, hW, hsame⟩ := X1641.leave (v := none) (fun _ => rfl)
  refine ⟨_, _, pre0 _ ?_, hrun, hended, _, _, rfl, ?_, ⟨_, rfl⟩, hW, hsame.mono (by decide) (by decide)⟩
  · show Sp p e below s₁ (mkF m 0 (lt7 r0 p1) []) _
    refine XS.iloadN X0.here hx rfl (hb hby d6_0) rfl ?_
    show Sp p e below s₁ (mkF m 1 (lt7 r0 p1) [(.int p1)]) _
    refine XS.ifYes X0.here hx rfl (pc0 := 1) (pc' := 31) rfl (hb hby d6_1) rfl ((if0 _ _).trans (flt as0).2.1) (by decide) (by decide) ?_
    show Sp p e below s₁ (mkF m 31 (lt7 r0 p1) []) _
    refine XS.iloadN X0.here hx rfl (hb hby d6_31) rfl ?_
    show Sp p e below s₁ (mkF m 32 (lt7 r0 p1) [(.int p1)]) _
    refine st1629 _ ?_
    show Sp p e below T1629 (mkF m 35 (lt7 r0 p1) [(.int (p1 >>> ((6 : Int32) &&& 31)))]) _
    refine XS.istoreN X1629.here hx rfl (hb hby d6_35) rfl (l' := (lt8 r0 p1 (p1 >>> ((6 : Int32) &&& 31)))) rfl ?_
    refine XS.aloadN X1629.here hx rfl (hb hby d6_36) rfl rfl ?_
    show Sp p e below T1629 (mkF m 37 (lt8 r0 p1 (p1 >>> ((6 : Int32) &&& 31))) [(.ref r0)]) _
    refine XS.iloadN X1629.here hx rfl (hb hby d6_37) rfl ?_
    show Sp p e below T1629 (mkF m 38 (lt8 r0 p1 (p1 >>> ((6 : Int32) &&& 31))) [(.int (p1 >>> ((6 : Int32) &&& 31))), (.ref r0)]) _
    refine st1631.trans ?_
    show Sp p e below T1631 (mkF m 41 (lt8 r0 p1 (p1 >>> ((6 : Int32) &&& 31))) []) _
    refine XS.aloadN X1631.here hx rfl (hb hby d6_41) rfl rfl ?_
    show Sp p e below T1631 (mkF m 42 (lt8 r0 p1 (p1 >>> ((6 : Int32) &&& 31))) [(.ref r0)]) _
    refine st1633 _ ?_
    show Sp p e below T1633 (mkF m 45 (lt8 r0 p1 (p1 >>> ((6 : Int32) &&& 31))) [(.ref r0_f3)]) _
    refine XS.iloadN X1633.here hx rfl (hb hby d6_45) rfl ?_
    show Sp p e below T1633 (mkF m 46 (lt8 r0 p1 (p1 >>> ((6 : Int32) &&& 31))) [(.int (p1 >>> ((6 : Int32) &&& 31))), (.ref r0_f3)]) _
    refine XT.dup2 X1633.here hx rfl (hb hby d6_46) rfl rfl rfl ?_
    show Sp p e below T1633 (mkF m 47 (lt8 r0 p1 (p1 >>> ((6 : Int32) &&& 31))) [(.int (p1 >>> ((6 : Int32) &&& 31))), (.ref r0_f3), (.int (p1 >>> ((6 : Int32) &&& 31))), (.ref r0_f3)]) _
    refine X1633.laload hx (j := (p1 >>> ((6 : Int32) &&& 31))) (v := (.long (x_r0_f3_F ((p1 >>> ((6 : Int32) &&& 31))).toNatClampNeg))) (by rw [e1633]; exact Ar1635.1) (State.isArrayOf_alike hZ.alike Ar1635.2.1) Ar1635.2.2 hin1635 hat1635 (g := (mkF m 47 (lt8 r0 p1 (p1 >>> ((6 : Int32) &&& 31))) [(.int (p1 >>> ((6 : Int32) &&& 31))), (.ref r0_f3), (.int (p1 >>> ((6 : Int32) &&& 31))), (.ref r0_f3)])) rfl rfl (hb hby d6_47) _ ?_
    show Sp p e below T1633 (mkF m 48 (lt8 r0 p1 (p1 >>> ((6 : Int32) &&& 31))) [(.long (x_r0_f3_F ((p1 >>> ((6 : Int32) &&& 31))).toNatClampNeg)), (.int (p1 >>> ((6 : Int32) &&& 31))), (.ref r0_f3)]) _
    refine XS.lconst X1633.here hx rfl (hb hby d6_48) ?_
    refine XS.iloadN X1633.here hx rfl (hb hby d6_49) rfl ?_
    show Sp p e below T1633 (mkF m 50 (lt8 r0 p1 (p1 >>> ((6 : Int32) &&& 31))) [(.int p1), (.long (1 : Int64)), (.long (x_r0_f3_F ((p1 >>> ((6 : Int32) &&& 31))).toNatClampNeg)), (.int (p1 >>> ((6 : Int32) &&& 31))), (.ref r0_f3)]) _
    refine XS.lshl X1633.here hx rfl (hb hby d6_50) rfl ?_
    refine XS.lor X1633.here hx rfl (hb hby d6_51) rfl ?_
    show Sp p e below T1633 (mkF m 52 (lt8 r0 p1 (p1 >>> ((6 : Int32) &&& 31))) [(.long ((x_r0_f3_F ((p1 >>> ((6 : Int32) &&& 31))).toNatClampNeg) ||| ((1 : Int64) <<< (p1 &&& 0x3f).toInt64))), (.int (p1 >>> ((6 : Int32) &&& 31))), (.ref r0_f3)]) _
    refine st1637 _ ?_
    show Sp p e below T1637 (mkF m 53 (lt8 r0 p1 (p1 >>> ((6 : Int32) &&& 31))) []) _
    refine XS.aloadN X1637.here hx rfl (hb hby d6_53) rfl rfl ?_
    show Sp p e below T1637 (mkF m 54 (lt8 r0 p1 (p1 >>> ((6 : Int32) &&& 31))) [(.ref r0)]) _
    refine st1641.trans ?_
    show Sp p e below T1641 (mkF m 57 (lt8 r0 p1 (p1 >>> ((6 : Int32) &&& 31))) []) _
    exact X1641.returnOut hx Bd.returns (hb hby d6_57) hr
  · show Q6x4 Z w_1 w_2 r0 p1 r0_f3 x_r0_f4 k_r0_f3 x_r0_f3_n x_r0_f3_F h0 n0 _ T1641.heap _
    rw [e1641]
    exact ⟨rfl, N1641, O1637, K1637, V_r0_f3_1637⟩
theorem pn_10x1 : plainName "com/example/vetd/vetd/Policy$Lines" = true := by first | (simp [plainName, overriddenIn]; done) | decide +kernel
theorem ef_10x1 (m : MethodId) (r0 : Addr) (r1 : Addr) : entryFrame m #[(.ref r0), (.ref r1)] 7 = mkF m 0 #[.val (.ref r0), .val (.ref r1), .unset, .unset, .unset, .unset, .unset] [] := by first | (simp [entryFrame, mkF, argsToLocals, Value.category]; done) | rfl
def sp10x1  : Value := .null
def Q10x1 (Z : State) (w_1 : Addr) (w_2 : Addr) (r0 : Addr) (r1 : Addr) (r0_f0 : Addr) (r0_f0_f3 : Addr) (r0_f1 : Addr) (r0_f1_f3 : Addr) (x_r0_f0_f4 : Int32) (k_r0_f0_f3 : ClassId) (x_r0_f0_f3_n : Int32) (x_r0_f0_f3_F : Nat → Int64) (x_r0_f1_f4 : Int32) (k_r0_f1_f3 : ClassId) (x_r0_f1_f3_n : Int32) (x_r0_f1_f3_F : Nat → Int64) (k_r1 : ClassId) (h0 : Heap) (n0 : Nat) (v : Option Value) (h : Heap) (L : List Loc) : Prop := v = some (sp10x1) ∧ Fr n0 L ∧ h = h0
set_option maxRecDepth 65536 in
set_option maxHeartbeats 40000000 in
theorem rm10x1 (l : Launch) (Z : State) (a0 : Array Value) (hw : ∀ d ∈ tables_1, d.before a0 Z = true) (hv : ∀ d ∈ jdkStatics_1, d.before a0 Z = true) (ws : List Jvm.Cond) (w_1 : Addr) (w_2 : Addr) (hS : StF Z w_1 w_2) (r0 : Addr) (r1 : Addr) (r0_f0 : Addr) (r0_f0_f3 : Addr) (r0_f1 : Addr) (r0_f1_f3 : Addr) (x_r0_f0_f4 : Int32) (k_r0_f0_f3 : ClassId) (x_r0_f0_f3_n : Int32) (x_r0_f0_f3_F : Nat → Int64) (x_r0_f1_f4 : Int32) (k_r0_f1_f3 : ClassId) (x_r0_f1_f3_n : Int32) (x_r0_f1_f3_F : Nat → Int64) (k_r1 : ClassId) (h0 : Heap) (n0 : Nat) (O0 : Old Z n0 h0) (g_r0 : n0 ≤ r0) (g_r0_f0 : n0 ≤ r0_f0) (g_r0_f0_f3 : n0 ≤ r0_f0_f3) (g_r0_f1 : n0 ≤ r0_f1) (g_r0_f1_f3 : n0 ≤ r0_f1_f3) (g_r1 : n0 ≤ r1) (E_r0 : Exa Z h0 r0 "com/example/vetd/vetd/Policy$Lines") (F_denied_r0 : Fld Z h0 r0 "com/example/vetd/vetd/Policy$Lines" "denied" "Ljava/util/BitSet;" (.ref r0_f0)) (F_permitted_r0 : Fld Z h0 r0 "com/example/vetd/vetd/Policy$Lines" "permitted" "Ljava/util/BitSet;" (.ref r0_f1)) (E_r0_f0 : Exa Z h0 r0_f0 "java/util/BitSet") (F_words_r0_f0 : Fld Z h0 r0_f0 "java/util/BitSet" "words" "[J" (.ref r0_f0_f3)) (F_wordsInUse_r0_f0 : Fld Z h0 r0_f0 "java/util/BitSet" "wordsInUse" "I" (.int x_r0_f0_f4)) (V_r0_f0_f3 : Arj Z h0 r0_f0_f3 k_r0_f0_f3 x_r0_f0_f3_n x_r0_f0_f3_F) (E_r0_f1 : Exa Z h0 r0_f1 "java/util/BitSet") (F_words_r0_f1 : Fld Z h0 r0_f1 "java/util/BitSet" "words" "[J" (.ref r0_f1_f3)) (F_wordsInUse_r0_f1 : Fld Z h0 r0_f1 "java/util/BitSet" "wordsInUse" "I" (.int x_r0_f1_f4)) (V_r0_f1_f3 : Arj Z h0 r0_f1_f3 k_r0_f1_f3 x_r0_f1_f3_n x_r0_f1_f3_F) (V_r1 : Arv Z h0 r1 k_r1 .int (0 : Int32) [] (.int (0 : Int32))) (ne_r0_r0_f0 : r0 ≠ r0_f0) (ne_r0_r0_f0_f3 : r0 ≠ r0_f0_f3) (ne_r0_r0_f1 : r0 ≠ r0_f1) (ne_r0_r0_f1_f3 : r0 ≠ r0_f1_f3) (ne_r0_r1 : r0 ≠ r1) (ne_r0_f0_r0_f0_f3 : r0_f0 ≠ r0_f0_f3) (ne_r0_f0_r0_f1 : r0_f0 ≠ r0_f1) (ne_r0_f0_r0_f1_f3 : r0_f0 ≠ r0_f1_f3) (ne_r0_f0_r1 : r0_f0 ≠ r1) (ne_r0_f0_f3_r0_f1 : r0_f0_f3 ≠ r0_f1) (ne_r0_f0_f3_r0_f1_f3 : r0_f0_f3 ≠ r0_f1_f3) (ne_r0_f0_f3_r1 : r0_f0_f3 ≠ r1) (ne_r0_f1_r0_f1_f3 : r0_f1 ≠ r0_f1_f3) (ne_r0_f1_r1 : r0_f1 ≠ r1) (ne_r0_f1_f3_r1 : r0_f1_f3 ≠ r1) (as0 : ¬ (x_r0_f1_f3_n < x_r0_f1_f4)) (as1 : ¬ (x_r0_f0_f3_n < x_r0_f0_f4)) :
    MetFree l Y31 (head1 (Jvm.Cond.code Y31 prog_20_method_2_code 7 (some (.object "com/example/vetd/vetd/Decision")) :: ws) ({ frames := 0, cells := 0, slots := 0, locals := 0 } : Room)) (fun a U => a = #[(.ref r0), (.ref r1)] ∧ Z.Warmed39 U.vm ∧ U.heap = h0) (fun _ _ _ _ _ => True) (fun _ U o U' => ∃ v L, o = .returned v ∧ Q10x1 Z w_1 w_2 r0 r1 r0_f0 r0_f0_f3 r0_f1 r0_f1_f3 x_r0_f0_f4 k_r0_f0_f3 x_r0_f0_f3_n x_r0_f0_f3_F x_r0_f1_f4 k_r0_f1_f3 x_r0_f1_f3_n x_r0_f1_f3_F k_r1 h0 n0 v U'.heap L ∧ FrameEnd U o U' L ({ frames := 0, cells := 0, slots := 0, locals := 0 } : Room).cells ({ frames := 0, cells := 0, slots := 0, locals := 0 } : Room).slots) := by
  refine MetFree.of_bodySF (plainFor_of_name pn_10x1) hisR ?_
  intro p e s m args below meth c s₁ Bd hml0 hP hK
  obtain ⟨rfl, hZ, hh⟩ := hP
  have hx := Bd.exec
  have hby := Bd.bytes
  have hml : c.maxLocals = 7 := hml0
  have hown : s.vm.findClass "com/example/vetd/vetd/Policy$Lines" = some m.cls := findClass_of_methodNamed Bd.named
  have hnm := (name_of_methodNamed Bd.named Bd.method).1
  have X0 : Stand p l e ({ frames := 0, cells := 0, slots := 0, locals := 0 } : Room) s m #[(.ref r0), (.ref r1)] below meth c s₁ [] 0 0 := Stand.of_body Bd
  have e0 : s₁.heap = h0 := by rw [← hh, Bd.state]; rfl
  have N0 := Fr.nil n0
  have hS0 := hS
  obtain ⟨S_1, E_1, S_2, E_2, S_3⟩ := hS
  have pre0 : ∀ t, Steps p.tables e below (s₁.setTop (mkF m 0 #[.val (.ref r0), .val (.ref r1), .unset, .unset, .unset, .unset, .unset] [])) t → Steps p.tables e below (s₁.setTop (entryFrame m #[(.ref r0), (.ref r1)] 7)) t := fun t k => castTop (ef_10x1 m r0 r1) k
  generalize hE0 : s₁.setTop (entryFrame m #[(.ref r0), (.ref r1)] 7) = E0 at pre0 ⊢
  obtain ⟨cl10127, Ar10127, qa10127, Sa10127, Ma10127, Ha10127, Ga10127⟩ := id V_r1
  obtain ⟨fs, hr, hrun, hended, hW, hsame⟩ := X0.leave (v := some .null) (fun h => by rw [Bd.returns] at h; cases h)
  refine ⟨_, _, pre0 _ ?_, hrun, hended, _, _, rfl, ?_, ⟨_, rfl⟩, hW, hsame.mono (by decide) (by decide)⟩
  · show Sp p e below s₁ (mkF m 0 (lt16 r0 r1) []) _
    refine XS.aconstNull X0.here hx rfl (hb hby d10_0) ?_
    refine XS.astoreN X0.here hx rfl (hb hby d10_1) rfl rfl (l' := (lt17 r0 r1)) rfl ?_
    show Sp p e below s₁ (mkF m 2 (lt17 r0 r1) []) _
    refine XS.aloadN X0.here hx rfl (hb hby d10_2) rfl rfl ?_
    refine XS.astoreN X0.here hx rfl (hb hby d10_3) rfl rfl (l' := (lt18 r0 r1 r1)) rfl ?_
    show Sp p e below s₁ (mkF m 4 (lt18 r0 r1 r1) []) _
    refine XS.aloadN X0.here hx rfl (hb hby d10_4) rfl rfl ?_
    show Sp p e below s₁ (mkF m 5 (lt18 r0 r1 r1) [(.ref r1)]) _
    refine X0.arraylength hx (by rw [e0]; exact Ar10127.1) (State.isArrayOf_alike hZ.alike Ar10127.2.1) (g := (mkF m 5 (lt18 r0 r1 r1) [(.ref r1)])) rfl rfl (hb hby d10_5) _ ?_
    rw [len_of Sa10127 Ma10127]
    show Sp p e below s₁ (mkF m 6 (lt18 r0 r1 r1) [(.int (0 : Int32))]) _
    refine XS.istore X0.here hx rfl (hb hby d10_6) rfl (l' := (lt19 r0 r1 r1 (0 : Int32))) rfl ?_
    refine XS.iconst X0.here hx rfl (hb hby d10_8) ?_
    show Sp p e below s₁ (mkF m 9 (lt19 r0 r1 r1 (0 : Int32)) [(.int (0 : Int32))]) _
    refine XS.istore X0.here hx rfl (hb hby d10_9) rfl (l' := (lt20 r0 r1 r1 (0 : Int32) (0 : Int32))) rfl ?_
    refine XS.iload X0.here hx rfl (hb hby d10_11) rfl ?_
    show Sp p e below s₁ (mkF m 13 (lt20 r0 r1 r1 (0 : Int32) (0 : Int32)) [(.int (0 : Int32))]) _
    refine XS.iload X0.here hx rfl (hb hby d10_13) rfl ?_
    show Sp p e below s₁ (mkF m 15 (lt20 r0 r1 r1 (0 : Int32) (0 : Int32)) [(.int (0 : Int32)), (.int (0 : Int32))]) _
    refine XS.icmpYes X0.here hx rfl (pc0 := 15) (pc' := 62) rfl (hb hby d10_15) rfl (flt (by decide : ¬ ((0 : Int32) < (0 : Int32)))).2.1 (by decide) (by decide) ?_
    show Sp p e below s₁ (mkF m 62 (lt20 r0 r1 r1 (0 : Int32) (0 : Int32)) []) _
    refine XS.aloadN X0.here hx rfl (hb hby d10_62) rfl rfl ?_
    show Sp p e below s₁ (mkF m 63 (lt20 r0 r1 r1 (0 : Int32) (0 : Int32)) [.null]) _
    jvm_step X0.here [X0.here.top, hx, (hb hby d10_63), X0.method', Bd.returns, Value.isRef, FieldType.isReference]
    first | (intro acts; rw [hr _ acts rfl rfl rfl]) | rw [hr _ _ rfl rfl rfl]
    exact Steps.refl _
  · show Q10x1 Z w_1 w_2 r0 r1 r0_f0 r0_f0_f3 r0_f1 r0_f1_f3 x_r0_f0_f4 k_r0_f0_f3 x_r0_f0_f3_n x_r0_f0_f3_F x_r0_f1_f4 k_r0_f1_f3 x_r0_f1_f3_n x_r0_f1_f3_F k_r1 h0 n0 _ s₁.heap _
    rw [e0]
    exact ⟨by unfold sp10x1; rfl, N0, rfl⟩
theorem pn_11x1 : plainName "java/util/BitSet" = true := by first | (simp [plainName, overriddenIn]; done) | decide +kernel
theorem ef_11x1 (m : MethodId) (r0 : Addr) (p1 : Int32) : entryFrame m #[(.ref r0), (.int p1)] 3 = mkF m 0 #[.val (.ref r0), .val (.int p1), .unset] [] := by first | (simp [entryFrame, mkF, argsToLocals, Value.category]; done) | rfl
def sp11x1 (p1 : Int32) (x_r0_f4 : Int32) (x_r0_f3_F : Nat → Int64) : Int32 := (if (p1 >>> ((6 : Int32) &&& 31)) < x_r0_f4 then (if (lcmpW ((x_r0_f3_F ((p1 >>> ((6 : Int32) &&& 31))).toNatClampNeg) &&& ((1 : Int64) <<< (p1 &&& 0x3f).toInt64)) (0 : Int64)) = (0 : Int32) then (0 : Int32) else (1 : Int32)) else (0 : Int32))
def Q11x1 (Z : State) (w_1 : Addr) (w_2 : Addr) (r0 : Addr) (p1 : Int32) (r0_f3 : Addr) (x_r0_f4 : Int32) (k_r0_f3 : ClassId) (x_r0_f3_n : Int32) (x_r0_f3_F : Nat → Int64) (h0 : Heap) (n0 : Nat) (v : Option Value) (h : Heap) (L : List Loc) : Prop := v = some (.int (sp11x1 p1 x_r0_f4 x_r0_f3_F)) ∧ Fr n0 L ∧ h = h0
set_option maxRecDepth 65536 in
set_option maxHeartbeats 40000000 in
theorem rm11x1 (l : Launch) (Z : State) (a0 : Array Value) (hw : ∀ d ∈ tables_1, d.before a0 Z = true) (hv : ∀ d ∈ jdkStatics_1, d.before a0 Z = true) (ws : List Jvm.Cond) (w_1 : Addr) (w_2 : Addr) (hS : StF Z w_1 w_2) (r0 : Addr) (p1 : Int32) (r0_f3 : Addr) (x_r0_f4 : Int32) (k_r0_f3 : ClassId) (x_r0_f3_n : Int32) (x_r0_f3_F : Nat → Int64) (h0 : Heap) (n0 : Nat) (O0 : Old Z n0 h0) (g_r0 : n0 ≤ r0) (g_r0_f3 : n0 ≤ r0_f3) (E_r0 : Exa Z h0 r0 "java/util/BitSet") (F_words_r0 : Fld Z h0 r0 "java/util/BitSet" "words" "[J" (.ref r0_f3)) (F_wordsInUse_r0 : Fld Z h0 r0 "java/util/BitSet" "wordsInUse" "I" (.int x_r0_f4)) (V_r0_f3 : Arj Z h0 r0_f3 k_r0_f3 x_r0_f3_n x_r0_f3_F) (ne_r0_r0_f3 : r0 ≠ r0_f3) (as0 : ¬ (p1 < (0 : Int32))) (as1 : ¬ ((p1 >>> ((6 : Int32) &&& 31)) < (0 : Int32))) (as2 : ¬ (x_r0_f3_n < x_r0_f4)) :
    MetFree l Y37 (head1 (Jvm.Cond.code Y37 jdk_92_method_26_code 3 (some .boolean) :: ws) ({ frames := 1, cells := 0, slots := 0, locals := 12 } : Room)) (fun a U => a = #[(.ref r0), (.int p1)] ∧ Z.Warmed39 U.vm ∧ U.heap = h0) (fun _ _ _ _ _ => True) (fun _ U o U' => ∃ v L, o = .returned v ∧ Q11x1 Z w_1 w_2 r0 p1 r0_f3 x_r0_f4 k_r0_f3 x_r0_f3_n x_r0_f3_F h0 n0 v U'.heap L ∧ FrameEnd U o U' L ({ frames := 1, cells := 0, slots := 0, locals := 12 } : Room).cells ({ frames := 1, cells := 0, slots := 0, locals := 12 } : Room).slots) := by
  refine MetFree.of_bodySF (plainFor_of_name pn_11x1) hisR ?_
  intro p e s m args below meth c s₁ Bd hml0 hP hK
  obtain ⟨rfl, hZ, hh⟩ := hP
  have hx := Bd.exec
  have hby := Bd.bytes
  have hml : c.maxLocals = 3 := hml0
  have hown : s.vm.findClass "java/util/BitSet" = some m.cls := findClass_of_methodNamed Bd.named
  have hnm := (name_of_methodNamed Bd.named Bd.method).1
  have X0 : Stand p l e ({ frames := 1, cells := 0, slots := 0, locals := 12 } : Room) s m #[(.ref r0), (.int p1)] below meth c s₁ [] 0 0 := Stand.of_body Bd
  have e0 : s₁.heap = h0 := by rw [← hh, Bd.state]; rfl
  have N0 := Fr.nil n0
  have hS0 := hS
  obtain ⟨S_1, E_1, S_2, E_2, S_3⟩ := hS
  have pre0 : ∀ t, Steps p.tables e below (s₁.setTop (mkF m 0 #[.val (.ref r0), .val (.int p1), .unset] [])) t → Steps p.tables e below (s₁.setTop (entryFrame m #[(.ref r0), (.int p1)] 3)) t := fun t k => castTop (ef_11x1 m r0 p1) k
  generalize hE0 : s₁.setTop (entryFrame m #[(.ref r0), (.int p1)] 3) = E0 at pre0 ⊢
  obtain ⟨cq10154, q10154, q10154'⟩ := E_r0.cell
  obtain ⟨_, _, ⟨T10154, L10154, k10154, n10154⟩, -, X10154, ⟨Lc10154, hQ10154, l10154, y10154, z10154⟩, st10154⟩ := X0.privateBack hx (y := Y19) hown (mvT hZ (hw _ (tk 51 rfl))) (mvT hZ (hw _ (tk 52 rfl))) (mvT hZ (hw _ (tk 54 rfl))) (Cond.privateMethod_at (mvP hZ (hw _ (tk 53 rfl)) (args := #[]))) (mvT hZ (hw _ (tk 55 rfl))) (by decide) (backOf (W := 0) (rm9x1 l Z a0 hw hv [] w_1 w_2 hS0 r0 r0_f3 x_r0_f4 k_r0_f3 x_r0_f3_n x_r0_f3_F h0 n0 O0 g_r0 g_r0_f3 E_r0 F_words_r0 F_wordsInUse_r0 V_r0_f3 ne_r0_r0_f3) hZ (hw _ (tk 55 rfl)) (hw _ (tk 11 rfl)) (by decide) (by decide)) (g := (mkF m 32 (lt7 r0 p1) [(.ref r0)])) rfl (by rw [hml]; rfl) (Steps.refl _) (a := r0) (by rw [e0]; exact q10154) q10154' (argsL := []) (rest := []) (lenOf pd_2 rfl) rfl (by show 2 * 0 + _ ≤ _; exact Nat.le_of_eq rfl) (hb hby d11_32) (fun _ _ => ⟨rfl, e0, (by decide : 0 + 0 ≤ _), (by decide : 0 + 0 ≤ _)⟩)
  dsimp only [Pt.U, Pt.locs, Pt.cells, Pt.slots] at X10154 l10154 y10154 z10154 st10154 hQ10154
  subst l10154 y10154 z10154
  obtain ⟨rv10154, N10154q, e10154⟩ := hQ10154
  subst rv10154
  have N10154 := Fr.app N0 N10154q
  obtain ⟨_, _, ⟨T10155, L10155, k10155, n10155⟩, -, X10155, ⟨Lc10155, hQ10155, l10155, y10155, z10155⟩, st10155⟩ := Jvm.LawKit.callS X10154 hx (y := Y5) hown (mvT hZ (hw _ (tk 25 rfl))) (mvT hZ (hw _ (tk 26 rfl))) (mvT hZ (hw _ (tk 11 rfl))) (mvT hZ (hw _ (tk 27 rfl))) (by decide) (backOf (W := 0) (rm5 l Z a0 hw hv [] w_1 w_2 hS0 p1 h0 n0 O0) hZ (hw _ (tk 27 rfl)) (hw _ (tk 11 rfl)) (by decide) (by decide)) (g := (mkF m 36 (lt7 r0 p1) [(.int p1)])) rfl (by rw [hml]; rfl) (argsL := [(.int p1)]) (rest := []) (lenOf pd_0 rfl) rfl (by show 2 * 0 + _ ≤ _; exact Nat.le_of_eq rfl) (hb hby d11_36) (fun _ _ => ⟨rfl, e10154, (by decide : 0 + 0 ≤ _), (by decide : 0 + 0 ≤ _)⟩)
  dsimp only [Pt.U, Pt.locs, Pt.cells, Pt.slots] at X10155 l10155 y10155 z10155 st10155 hQ10155
  subst l10155 y10155 z10155
  obtain ⟨rv10155, N10155q, e10155⟩ := hQ10155
  rw [show sp5 p1 = (p1 >>> ((6 : Int32) &&& 31)) from by unfold sp5; rfl] at rv10155
  subst rv10155
  have N10155 := Fr.app N10154 N10155q
  obtain ⟨T10156, X10156, e10156, st10156⟩ := getF X10155 hx hZ hown (host := "") (Or.inl (hw _ (tk 16 rfl))) Via.refl e10155 F_wordsInUse_r0 (g := (mkF m 42 (lt8 r0 p1 (p1 >>> ((6 : Int32) &&& 31))) [(.ref r0), (.int (p1 >>> ((6 : Int32) &&& 31)))])) rfl rfl (hb hby d11_42)
  have pre10157 : Cm p e below E0 (T10156.setTop (mkF m 45 (lt8 r0 p1 (p1 >>> ((6 : Int32) &&& 31))) [(.int x_r0_f4), (.int (p1 >>> ((6 : Int32) &&& 31)))])) := fun t kt => by
    refine pre0 t ?_
    show Sp p e below s₁ (mkF m 0 (lt7 r0 p1) []) _
    refine XS.iloadN X0.here hx rfl (hb hby d11_0) rfl ?_
    show Sp p e below s₁ (mkF m 1 (lt7 r0 p1) [(.int p1)]) _
    refine XS.ifYes X0.here hx rfl (pc0 := 1) (pc' := 31) rfl (hb hby d11_1) rfl ((if0 _ _).trans (flt as0).2.1) (by decide) (by decide) ?_
    show Sp p e below s₁ (mkF m 31 (lt7 r0 p1) []) _
    refine XS.aloadN X0.here hx rfl (hb hby d11_31) rfl rfl ?_
    show Sp p e below s₁ (mkF m 32 (lt7 r0 p1) [(.ref r0)]) _
    refine st10154.trans ?_
    show Sp p e below T10154 (mkF m 35 (lt7 r0 p1) []) _
    refine XS.iloadN X10154.here hx rfl (hb hby d11_35) rfl ?_
    show Sp p e below T10154 (mkF m 36 (lt7 r0 p1) [(.int p1)]) _
    refine st10155 _ ?_
    show Sp p e below T10155 (mkF m 39 (lt7 r0 p1) [(.int (p1 >>> ((6 : Int32) &&& 31)))]) _
    refine XS.istoreN X10155.here hx rfl (hb hby d11_39) rfl (l' := (lt8 r0 p1 (p1 >>> ((6 : Int32) &&& 31)))) rfl ?_
    refine XS.iloadN X10155.here hx rfl (hb hby d11_40) rfl ?_
    show Sp p e below T10155 (mkF m 41 (lt8 r0 p1 (p1 >>> ((6 : Int32) &&& 31))) [(.int (p1 >>> ((6 : Int32) &&& 31)))]) _
    refine XS.aloadN X10155.here hx rfl (hb hby d11_41) rfl rfl ?_
    show Sp p e below T10155 (mkF m 42 (lt8 r0 p1 (p1 >>> ((6 : Int32) &&& 31))) [(.ref r0), (.int (p1 >>> ((6 : Int32) &&& 31)))]) _
    refine st10156 _ ?_
    show Sp p e below T10156 (mkF m 45 (lt8 r0 p1 (p1 >>> ((6 : Int32) &&& 31))) [(.int x_r0_f4), (.int (p1 >>> ((6 : Int32) &&& 31)))]) _
    exact kt
  by_cases hc10158 : (p1 >>> ((6 : Int32) &&& 31)) < x_r0_f4
  · obtain ⟨T10159, X10159, e10159, st10159⟩ := getF X10156 hx hZ hown (host := "") (Or.inl (hw _ (tk 29 rfl))) Via.refl e10156 F_words_r0 (g := (mkF m 49 (lt8 r0 p1 (p1 >>> ((6 : Int32) &&& 31))) [(.ref r0)])) rfl rfl (hb hby d11_49)
    obtain ⟨cl10160, Ar10160, qa10160, Sa10160, Ma10160, Ha10160, Ga10160⟩ := id V_r0_f3
    have hin10160 : ¬ ((p1 >>> ((6 : Int32) &&& 31)) < 0 ∨ cl10160.slots.size ≤ ((p1 >>> ((6 : Int32) &&& 31))).toNatClampNeg) := by exact inb_of Sa10160 ⟨as1, (own_ltn hc10158 as2)⟩
    have hat10160 : cl10160.slots[((p1 >>> ((6 : Int32) &&& 31))).toNatClampNeg]? = some (.long (x_r0_f3_F ((p1 >>> ((6 : Int32) &&& 31))).toNatClampNeg)) := Ha10160 _ (Nat.lt_of_not_le fun y => hin10160 (Or.inr y))
    have pre10161 : Cm p e below E0 (T10159.setTop (mkF m 60 (lt8 r0 p1 (p1 >>> ((6 : Int32) &&& 31))) [(.int (lcmpW ((x_r0_f3_F ((p1 >>> ((6 : Int32) &&& 31))).toNatClampNeg) &&& ((1 : Int64) <<< (p1 &&& 0x3f).toInt64)) (0 : Int64)))])) := fun t kt => by
      refine pre10157 t ?_
      show Sp p e below T10156 (mkF m 45 (lt8 r0 p1 (p1 >>> ((6 : Int32) &&& 31))) [(.int x_r0_f4), (.int (p1 >>> ((6 : Int32) &&& 31)))]) _
      refine XS.icmpNo X10156.here hx rfl (hb hby d11_45) rfl (tlt hc10158).2.1 ?_
      show Sp p e below T10156 (mkF m 48 (lt8 r0 p1 (p1 >>> ((6 : Int32) &&& 31))) []) _
      refine XS.aloadN X10156.here hx rfl (hb hby d11_48) rfl rfl ?_
      show Sp p e below T10156 (mkF m 49 (lt8 r0 p1 (p1 >>> ((6 : Int32) &&& 31))) [(.ref r0)]) _
      refine st10159 _ ?_
      show Sp p e below T10159 (mkF m 52 (lt8 r0 p1 (p1 >>> ((6 : Int32) &&& 31))) [(.ref r0_f3)]) _
      refine XS.iloadN X10159.here hx rfl (hb hby d11_52) rfl ?_
      show Sp p e below T10159 (mkF m 53 (lt8 r0 p1 (p1 >>> ((6 : Int32) &&& 31))) [(.int (p1 >>> ((6 : Int32) &&& 31))), (.ref r0_f3)]) _
      refine X10159.laload hx (j := (p1 >>> ((6 : Int32) &&& 31))) (v := (.long (x_r0_f3_F ((p1 >>> ((6 : Int32) &&& 31))).toNatClampNeg))) (by rw [e10159]; exact Ar10160.1) (State.isArrayOf_alike hZ.alike Ar10160.2.1) Ar10160.2.2 hin10160 hat10160 (g := (mkF m 53 (lt8 r0 p1 (p1 >>> ((6 : Int32) &&& 31))) [(.int (p1 >>> ((6 : Int32) &&& 31))), (.ref r0_f3)])) rfl rfl (hb hby d11_53) _ ?_
      show Sp p e below T10159 (mkF m 54 (lt8 r0 p1 (p1 >>> ((6 : Int32) &&& 31))) [(.long (x_r0_f3_F ((p1 >>> ((6 : Int32) &&& 31))).toNatClampNeg))]) _
      refine XS.lconst X10159.here hx rfl (hb hby d11_54) ?_
      refine XS.iloadN X10159.here hx rfl (hb hby d11_55) rfl ?_
      show Sp p e below T10159 (mkF m 56 (lt8 r0 p1 (p1 >>> ((6 : Int32) &&& 31))) [(.int p1), (.long (1 : Int64)), (.long (x_r0_f3_F ((p1 >>> ((6 : Int32) &&& 31))).toNatClampNeg))]) _
      refine XS.lshl X10159.here hx rfl (hb hby d11_56) rfl ?_
      refine XS.land X10159.here hx rfl (hb hby d11_57) rfl ?_
      show Sp p e below T10159 (mkF m 58 (lt8 r0 p1 (p1 >>> ((6 : Int32) &&& 31))) [(.long ((x_r0_f3_F ((p1 >>> ((6 : Int32) &&& 31))).toNatClampNeg) &&& ((1 : Int64) <<< (p1 &&& 0x3f).toInt64)))]) _
      refine XS.lconst X10159.here hx rfl (hb hby d11_58) ?_
      refine XS.lcmp X10159.here hx rfl (hb hby d11_59) rfl ?_
      show Sp p e below T10159 (mkF m 60 (lt8 r0 p1 (p1 >>> ((6 : Int32) &&& 31))) [(.int (lcmpW ((x_r0_f3_F ((p1 >>> ((6 : Int32) &&& 31))).toNatClampNeg) &&& ((1 : Int64) <<< (p1 &&& 0x3f).toInt64)) (0 : Int64)))]) _
      exact kt
    by_cases hc10162 : (lcmpW ((x_r0_f3_F ((p1 >>> ((6 : Int32) &&& 31))).toNatClampNeg) &&& ((1 : Int64) <<< (p1 &&& 0x3f).toInt64)) (0 : Int64)) = (0 : Int32)
    · obtain ⟨fs, hr, hrun, hended, hW, hsame⟩ := X10159.leave (v := some (.int (0 : Int32))) (fun h => by rw [Bd.returns] at h; cases h)
      refine ⟨_, _, pre10161 _ ?_, hrun, hended, _, _, rfl, ?_, ⟨_, rfl⟩, hW, hsame.mono (by decide) (by decide)⟩
      · show Sp p e below T10159 (mkF m 60 (lt8 r0 p1 (p1 >>> ((6 : Int32) &&& 31))) [(.int (lcmpW ((x_r0_f3_F ((p1 >>> ((6 : Int32) &&& 31))).toNatClampNeg) &&& ((1 : Int64) <<< (p1 &&& 0x3f).toInt64)) (0 : Int64)))]) _
        refine XS.ifYes X10159.here hx rfl (pc0 := 60) (pc' := 67) rfl (hb hby d11_60) rfl ((if0 _ _).trans (teq hc10162).1) (by decide) (by decide) ?_
        show Sp p e below T10159 (mkF m 67 (lt8 r0 p1 (p1 >>> ((6 : Int32) &&& 31))) []) _
        refine XS.iconst X10159.here hx rfl (hb hby d11_67) ?_
        show Sp p e below T10159 (mkF m 68 (lt8 r0 p1 (p1 >>> ((6 : Int32) &&& 31))) [(.int (0 : Int32))]) _
        exact retN X10159 hx (t := .boolean) Bd.returns (by simp) (hb hby d11_68) hr
      · show Q11x1 Z w_1 w_2 r0 p1 r0_f3 x_r0_f4 k_r0_f3 x_r0_f3_n x_r0_f3_F h0 n0 _ T10159.heap _
        rw [e10159]
        exact ⟨by unfold sp11x1; rw [if_pos hc10158, if_pos hc10162], N10155, rfl⟩
    · obtain ⟨fs, hr, hrun, hended, hW, hsame⟩ := X10159.leave (v := some (.int (1 : Int32))) (fun h => by rw [Bd.returns] at h; cases h)
      refine ⟨_, _, pre10161 _ ?_, hrun, hended, _, _, rfl, ?_, ⟨_, rfl⟩, hW, hsame.mono (by decide) (by decide)⟩
      · show Sp p e below T10159 (mkF m 60 (lt8 r0 p1 (p1 >>> ((6 : Int32) &&& 31))) [(.int (lcmpW ((x_r0_f3_F ((p1 >>> ((6 : Int32) &&& 31))).toNatClampNeg) &&& ((1 : Int64) <<< (p1 &&& 0x3f).toInt64)) (0 : Int64)))]) _
        refine XS.ifNo X10159.here hx rfl (hb hby d11_60) rfl ((if0 _ _).trans (feq hc10162).1) ?_
        show Sp p e below T10159 (mkF m 63 (lt8 r0 p1 (p1 >>> ((6 : Int32) &&& 31))) []) _
        refine XS.iconst X10159.here hx rfl (hb hby d11_63) ?_
        show Sp p e below T10159 (mkF m 64 (lt8 r0 p1 (p1 >>> ((6 : Int32) &&& 31))) [(.int (1 : Int32))]) _
        refine XS.goto X10159.here hx rfl (pc0 := 64) (pc' := 68) rfl (hb hby d11_64) (by decide) (by decide) ?_
        show Sp p e below T10159 (mkF m 68 (lt8 r0 p1 (p1 >>> ((6 : Int32) &&& 31))) [(.int (1 : Int32))]) _
        exact retN X10159 hx (t := .boolean) Bd.returns (by simp) (hb hby d11_68) hr
      · show Q11x1 Z w_1 w_2 r0 p1 r0_f3 x_r0_f4 k_r0_f3 x_r0_f3_n x_r0_f3_F h0 n0 _ T10159.heap _
        rw [e10159]
        exact ⟨by unfold sp11x1; rw [if_pos hc10158, if_neg hc10162], N10155, rfl⟩
  · obtain ⟨fs, hr, hrun, hended, hW, hsame⟩ := X10156.leave (v := some (.int (0 : Int32))) (fun h => by rw [Bd.returns] at h; cases h)
    refine ⟨_, _, pre10157 _ ?_, hrun, hended, _, _, rfl, ?_, ⟨_, rfl⟩, hW, hsame.mono (by decide) (by decide)⟩
    · show Sp p e below T10156 (mkF m 45 (lt8 r0 p1 (p1 >>> ((6 : Int32) &&& 31))) [(.int x_r0_f4), (.int (p1 >>> ((6 : Int32) &&& 31)))]) _
      refine XS.icmpYes X10156.here hx rfl (pc0 := 45) (pc' := 67) rfl (hb hby d11_45) rfl (flt hc10158).2.1 (by decide) (by decide) ?_
      show Sp p e below T10156 (mkF m 67 (lt8 r0 p1 (p1 >>> ((6 : Int32) &&& 31))) []) _
      refine XS.iconst X10156.here hx rfl (hb hby d11_67) ?_
      show Sp p e below T10156 (mkF m 68 (lt8 r0 p1 (p1 >>> ((6 : Int32) &&& 31))) [(.int (0 : Int32))]) _
      exact retN X10156 hx (t := .boolean) Bd.returns (by simp) (hb hby d11_68) hr
    · show Q11x1 Z w_1 w_2 r0 p1 r0_f3 x_r0_f4 k_r0_f3 x_r0_f3_n x_r0_f3_F h0 n0 _ T10156.heap _
      rw [e10156]
      exact ⟨by unfold sp11x1; rw [if_neg hc10158], N10155, rfl⟩
theorem pn_10x2 : plainName "com/example/vetd/vetd/Policy$Lines" = true := by first | (simp [plainName, overriddenIn]; done) | decide +kernel
theorem ef_10x2 (m : MethodId) (r0 : Addr) (r1 : Addr) : entryFrame m #[(.ref r0), (.ref r1)] 7 = mkF m 0 #[.val (.ref r0), .val (.ref r1), .unset, .unset, .unset, .unset, .unset] [] := by first | (simp [entryFrame, mkF, argsToLocals, Value.category]; done) | rfl
def sp10x2 (w_1 : Addr) (w_2 : Addr) (x_r0_f0_f4 : Int32) (x_r0_f0_f3_F : Nat → Int64) (x_r0_f1_f4 : Int32) (x_r0_f1_f3_F : Nat → Int64) (x_r1_0 : Int32) : Value := (if (sp11x1 x_r1_0 x_r0_f0_f4 x_r0_f0_f3_F) = (0 : Int32) then (if (sp11x1 x_r1_0 x_r0_f1_f4 x_r0_f1_f3_F) = (0 : Int32) then .null else (.ref w_2)) else (.ref w_1))
def Q10x2 (Z : State) (w_1 : Addr) (w_2 : Addr) (r0 : Addr) (r1 : Addr) (r0_f0 : Addr) (r0_f0_f3 : Addr) (r0_f1 : Addr) (r0_f1_f3 : Addr) (x_r0_f0_f4 : Int32) (k_r0_f0_f3 : ClassId) (x_r0_f0_f3_n : Int32) (x_r0_f0_f3_F : Nat → Int64) (x_r0_f1_f4 : Int32) (k_r0_f1_f3 : ClassId) (x_r0_f1_f3_n : Int32) (x_r0_f1_f3_F : Nat → Int64) (k_r1 : ClassId) (x_r1_0 : Int32) (h0 : Heap) (n0 : Nat) (v : Option Value) (h : Heap) (L : List Loc) : Prop := v = some (sp10x2 w_1 w_2 x_r0_f0_f4 x_r0_f0_f3_F x_r0_f1_f4 x_r0_f1_f3_F x_r1_0) ∧ Fr n0 L ∧ h = h0
set_option maxRecDepth 65536 in
set_option maxHeartbeats 40000000 in
theorem rm10x2 (l : Launch) (Z : State) (a0 : Array Value) (hw : ∀ d ∈ tables_1, d.before a0 Z = true) (hv : ∀ d ∈ jdkStatics_1, d.before a0 Z = true) (ws : List Jvm.Cond) (w_1 : Addr) (w_2 : Addr) (hS : StF Z w_1 w_2) (r0 : Addr) (r1 : Addr) (r0_f0 : Addr) (r0_f0_f3 : Addr) (r0_f1 : Addr) (r0_f1_f3 : Addr) (x_r0_f0_f4 : Int32) (k_r0_f0_f3 : ClassId) (x_r0_f0_f3_n : Int32) (x_r0_f0_f3_F : Nat → Int64) (x_r0_f1_f4 : Int32) (k_r0_f1_f3 : ClassId) (x_r0_f1_f3_n : Int32) (x_r0_f1_f3_F : Nat → Int64) (k_r1 : ClassId) (x_r1_0 : Int32) (h0 : Heap) (n0 : Nat) (O0 : Old Z n0 h0) (g_r0 : n0 ≤ r0) (g_r0_f0 : n0 ≤ r0_f0) (g_r0_f0_f3 : n0 ≤ r0_f0_f3) (g_r0_f1 : n0 ≤ r0_f1) (g_r0_f1_f3 : n0 ≤ r0_f1_f3) (g_r1 : n0 ≤ r1) (E_r0 : Exa Z h0 r0 "com/example/vetd/vetd/Policy$Lines") (F_denied_r0 : Fld Z h0 r0 "com/example/vetd/vetd/Policy$Lines" "denied" "Ljava/util/BitSet;" (.ref r0_f0)) (F_permitted_r0 : Fld Z h0 r0 "com/example/vetd/vetd/Policy$Lines" "permitted" "Ljava/util/BitSet;" (.ref r0_f1)) (E_r0_f0 : Exa Z h0 r0_f0 "java/util/BitSet") (F_words_r0_f0 : Fld Z h0 r0_f0 "java/util/BitSet" "words" "[J" (.ref r0_f0_f3)) (F_wordsInUse_r0_f0 : Fld Z h0 r0_f0 "java/util/BitSet" "wordsInUse" "I" (.int x_r0_f0_f4)) (V_r0_f0_f3 : Arj Z h0 r0_f0_f3 k_r0_f0_f3 x_r0_f0_f3_n x_r0_f0_f3_F) (E_r0_f1 : Exa Z h0 r0_f1 "java/util/BitSet") (F_words_r0_f1 : Fld Z h0 r0_f1 "java/util/BitSet" "words" "[J" (.ref r0_f1_f3)) (F_wordsInUse_r0_f1 : Fld Z h0 r0_f1 "java/util/BitSet" "wordsInUse" "I" (.int x_r0_f1_f4)) (V_r0_f1_f3 : Arj Z h0 r0_f1_f3 k_r0_f1_f3 x_r0_f1_f3_n x_r0_f1_f3_F) (V_r1 : Arv Z h0 r1 k_r1 .int (1 : Int32) [(.int x_r1_0)] (.int (0 : Int32))) (ne_r0_r0_f0 : r0 ≠ r0_f0) (ne_r0_r0_f0_f3 : r0 ≠ r0_f0_f3) (ne_r0_r0_f1 : r0 ≠ r0_f1) (ne_r0_r0_f1_f3 : r0 ≠ r0_f1_f3) (ne_r0_r1 : r0 ≠ r1) (ne_r0_f0_r0_f0_f3 : r0_f0 ≠ r0_f0_f3) (ne_r0_f0_r0_f1 : r0_f0 ≠ r0_f1) (ne_r0_f0_r0_f1_f3 : r0_f0 ≠ r0_f1_f3) (ne_r0_f0_r1 : r0_f0 ≠ r1) (ne_r0_f0_f3_r0_f1 : r0_f0_f3 ≠ r0_f1) (ne_r0_f0_f3_r0_f1_f3 : r0_f0_f3 ≠ r0_f1_f3) (ne_r0_f0_f3_r1 : r0_f0_f3 ≠ r1) (ne_r0_f1_r0_f1_f3 : r0_f1 ≠ r0_f1_f3) (ne_r0_f1_r1 : r0_f1 ≠ r1) (ne_r0_f1_f3_r1 : r0_f1_f3 ≠ r1) (as0 : ¬ (x_r1_0 < (0 : Int32))) (as1 : ¬ ((x_r1_0 >>> ((6 : Int32) &&& 31)) < (0 : Int32))) (as2 : ¬ (x_r0_f1_f3_n < x_r0_f1_f4)) (as3 : ¬ (x_r0_f0_f3_n < x_r0_f0_f4)) :
    MetFree l Y31 (head1 (Jvm.Cond.code Y31 prog_20_method_2_code 7 (some (.object "com/example/vetd/vetd/Decision")) :: ws) ({ frames := 2, cells := 0, slots := 0, locals := 26 } : Room)) (fun a U => a = #[(.ref r0), (.ref r1)] ∧ Z.Warmed39 U.vm ∧ U.heap = h0) (fun _ _ _ _ _ => True) (fun _ U o U' => ∃ v L, o = .returned v ∧ Q10x2 Z w_1 w_2 r0 r1 r0_f0 r0_f0_f3 r0_f1 r0_f1_f3 x_r0_f0_f4 k_r0_f0_f3 x_r0_f0_f3_n x_r0_f0_f3_F x_r0_f1_f4 k_r0_f1_f3 x_r0_f1_f3_n x_r0_f1_f3_F k_r1 x_r1_0 h0 n0 v U'.heap L ∧ FrameEnd U o U' L ({ frames := 2, cells := 0, slots := 0, locals := 26 } : Room).cells ({ frames := 2, cells := 0, slots := 0, locals := 26 } : Room).slots) := by
  refine MetFree.of_bodySF (plainFor_of_name pn_10x2) hisR ?_
  intro p e s m args below meth c s₁ Bd hml0 hP hK
  obtain ⟨rfl, hZ, hh⟩ := hP
  have hx := Bd.exec
  have hby := Bd.bytes
  have hml : c.maxLocals = 7 := hml0
  have hown : s.vm.findClass "com/example/vetd/vetd/Policy$Lines" = some m.cls := findClass_of_methodNamed Bd.named
  have hnm := (name_of_methodNamed Bd.named Bd.method).1
  have X0 : Stand p l e ({ frames := 2, cells := 0, slots := 0, locals := 26 } : Room) s m #[(.ref r0), (.ref r1)] below meth c s₁ [] 0 0 := Stand.of_body Bd
  have e0 : s₁.heap = h0 := by rw [← hh, Bd.state]; rfl
  have N0 := Fr.nil n0
  have hS0 := hS
  obtain ⟨S_1, E_1, S_2, E_2, S_3⟩ := hS
  have pre0 : ∀ t, Steps p.tables e below (s₁.setTop (mkF m 0 #[.val (.ref r0), .val (.ref r1), .unset, .unset, .unset, .unset, .unset] [])) t → Steps p.tables e below (s₁.setTop (entryFrame m #[(.ref r0), (.ref r1)] 7)) t := fun t k => castTop (ef_10x2 m r0 r1) k
  generalize hE0 : s₁.setTop (entryFrame m #[(.ref r0), (.ref r1)] 7) = E0 at pre0 ⊢
  obtain ⟨cl10151, Ar10151, qa10151, Sa10151, Ma10151, Ha10151, Ga10151⟩ := id V_r1
  obtain ⟨cl10152, Ar10152, qa10152, Sa10152, Ma10152, Ha10152, Ga10152⟩ := id V_r1
  have hin10152 : ¬ ((0 : Int32) < 0 ∨ cl10152.slots.size ≤ ((0 : Int32)).toNatClampNeg) := by  exact inb_of Sa10152 ⟨by decide, by decide⟩
  have hat10152 : cl10152.slots[((0 : Int32)).toNatClampNeg]? = some (.int x_r1_0) := Has.at Ha10152 hin10152 (by rfl)
  obtain ⟨T10153, X10153, e10153, st10153⟩ := getF X0 hx hZ hown (host := "") (Or.inl (hw _ (tk 33 rfl))) Via.refl e0 F_denied_r0 (g := (mkF m 25 (lt25 r0 r1 r1 (1 : Int32) (0 : Int32) x_r1_0) [(.ref r0)])) rfl rfl (hb hby d10_25)
  obtain ⟨cq10163, kq10163, q10163a, q10163b, q10163c⟩ := isOf hZ e10153 E_r0_f0
  obtain ⟨_, _, ⟨T10163, L10163, k10163, n10163⟩, -, X10163, ⟨Lc10163, hQ10163, l10163, y10163, z10163⟩, st10163⟩ := X10153.virtualBack hx (y := Y37) (z := Y37) hown (mvT hZ (hw _ (tk 63 rfl))) (mvT hZ (hw _ (tk 64 rfl))) (notFace_of_selects (args := #[]) (mvT hZ (hw _ (tk 66 rfl)))) (mvT hZ (hw _ (tk 66 rfl))) (mvT hZ (hw _ (tk 65 rfl))) (by decide) (backOf (W := 0) (rm11x1 l Z a0 hw hv [] w_1 w_2 hS0 r0_f0 x_r1_0 r0_f0_f3 x_r0_f0_f4 k_r0_f0_f3 x_r0_f0_f3_n x_r0_f0_f3_F h0 n0 O0 g_r0_f0 g_r0_f0_f3 E_r0_f0 F_words_r0_f0 F_wordsInUse_r0_f0 V_r0_f0_f3 ne_r0_f0_r0_f0_f3 as0 as1 as3) hZ (hw _ (tk 67 rfl)) (hw _ (tk 11 rfl)) (by decide) (by decide)) q10163a q10163c (g := (mkF m 30 (lt25 r0 r1 r1 (1 : Int32) (0 : Int32) x_r1_0) [(.int x_r1_0), (.ref r0_f0)])) rfl (by rw [hml]; rfl) (Steps.refl _) (argsL := [(.int x_r1_0)]) (rest := []) (lenOf pd_6 rfl) rfl (by show 2 * 0 + _ ≤ _; exact Nat.le_of_eq rfl) (hb hby d10_30) (fun _ _ => ⟨rfl, e10153, (by decide : 0 + 0 ≤ _), (by decide : 0 + 0 ≤ _)⟩)
  dsimp only [Pt.U, Pt.locs, Pt.cells, Pt.slots] at X10163 l10163 y10163 z10163 st10163 hQ10163
  subst l10163 y10163 z10163
  obtain ⟨rv10163, N10163q, e10163⟩ := hQ10163
  subst rv10163
  have N10163 := Fr.app N0 N10163q
  have pre10164 : Cm p e below E0 (T10163.setTop (mkF m 33 (lt25 r0 r1 r1 (1 : Int32) (0 : Int32) x_r1_0) [(.int (sp11x1 x_r1_0 x_r0_f0_f4 x_r0_f0_f3_F))])) := fun t kt => by
    refine pre0 t ?_
    show Sp p e below s₁ (mkF m 0 (lt16 r0 r1) []) _
    refine XS.aconstNull X0.here hx rfl (hb hby d10_0) ?_
    refine XS.astoreN X0.here hx rfl (hb hby d10_1) rfl rfl (l' := (lt17 r0 r1)) rfl ?_
    show Sp p e below s₁ (mkF m 2 (lt17 r0 r1) []) _
    refine XS.aloadN X0.here hx rfl (hb hby d10_2) rfl rfl ?_
    refine XS.astoreN X0.here hx rfl (hb hby d10_3) rfl rfl (l' := (lt18 r0 r1 r1)) rfl ?_
    show Sp p e below s₁ (mkF m 4 (lt18 r0 r1 r1) []) _
    refine XS.aloadN X0.here hx rfl (hb hby d10_4) rfl rfl ?_
    show Sp p e below s₁ (mkF m 5 (lt18 r0 r1 r1) [(.ref r1)]) _
    refine X0.arraylength hx (by rw [e0]; exact Ar10151.1) (State.isArrayOf_alike hZ.alike Ar10151.2.1) (g := (mkF m 5 (lt18 r0 r1 r1) [(.ref r1)])) rfl rfl (hb hby d10_5) _ ?_
    rw [len_of Sa10151 Ma10151]
    show Sp p e below s₁ (mkF m 6 (lt18 r0 r1 r1) [(.int (1 : Int32))]) _
    refine XS.istore X0.here hx rfl (hb hby d10_6) rfl (l' := (lt19 r0 r1 r1 (1 : Int32))) rfl ?_
    refine XS.iconst X0.here hx rfl (hb hby d10_8) ?_
    show Sp p e below s₁ (mkF m 9 (lt19 r0 r1 r1 (1 : Int32)) [(.int (0 : Int32))]) _
    refine XS.istore X0.here hx rfl (hb hby d10_9) rfl (l' := (lt20 r0 r1 r1 (1 : Int32) (0 : Int32))) rfl ?_
    refine XS.iload X0.here hx rfl (hb hby d10_11) rfl ?_
    show Sp p e below s₁ (mkF m 13 (lt20 r0 r1 r1 (1 : Int32) (0 : Int32)) [(.int (0 : Int32))]) _
    refine XS.iload X0.here hx rfl (hb hby d10_13) rfl ?_
    show Sp p e below s₁ (mkF m 15 (lt20 r0 r1 r1 (1 : Int32) (0 : Int32)) [(.int (1 : Int32)), (.int (0 : Int32))]) _
    refine XS.icmpNo X0.here hx rfl (hb hby d10_15) rfl (tlt (by decide : ((0 : Int32) < (1 : Int32)))).2.1 ?_
    show Sp p e below s₁ (mkF m 18 (lt20 r0 r1 r1 (1 : Int32) (0 : Int32)) []) _
    refine XS.aloadN X0.here hx rfl (hb hby d10_18) rfl rfl ?_
    refine XS.iload X0.here hx rfl (hb hby d10_19) rfl ?_
    show Sp p e below s₁ (mkF m 21 (lt20 r0 r1 r1 (1 : Int32) (0 : Int32)) [(.int (0 : Int32)), (.ref r1)]) _
    refine X0.iaload hx (j := (0 : Int32)) (v := (.int x_r1_0)) (by rw [e0]; exact Ar10152.1) (State.isArrayOf_alike hZ.alike Ar10152.2.1) Ar10152.2.2 hin10152 hat10152 (g := (mkF m 21 (lt20 r0 r1 r1 (1 : Int32) (0 : Int32)) [(.int (0 : Int32)), (.ref r1)])) rfl rfl (hb hby d10_21) _ ?_
    show Sp p e below s₁ (mkF m 22 (lt20 r0 r1 r1 (1 : Int32) (0 : Int32)) [(.int x_r1_0)]) _
    refine XS.istore X0.here hx rfl (hb hby d10_22) rfl (l' := (lt25 r0 r1 r1 (1 : Int32) (0 : Int32) x_r1_0)) rfl ?_
    refine XS.aloadN X0.here hx rfl (hb hby d10_24) rfl rfl ?_
    show Sp p e below s₁ (mkF m 25 (lt25 r0 r1 r1 (1 : Int32) (0 : Int32) x_r1_0) [(.ref r0)]) _
    refine st10153 _ ?_
    show Sp p e below T10153 (mkF m 28 (lt25 r0 r1 r1 (1 : Int32) (0 : Int32) x_r1_0) [(.ref r0_f0)]) _
    refine XS.iload X10153.here hx rfl (hb hby d10_28) rfl ?_
    show Sp p e below T10153 (mkF m 30 (lt25 r0 r1 r1 (1 : Int32) (0 : Int32) x_r1_0) [(.int x_r1_0), (.ref r0_f0)]) _
    refine st10163.trans ?_
    show Sp p e below T10163 (mkF m 33 (lt25 r0 r1 r1 (1 : Int32) (0 : Int32) x_r1_0) [(.int (sp11x1 x_r1_0 x_r0_f0_f4 x_r0_f0_f3_F))]) _
    exact kt
  by_cases hc10165 : (sp11x1 x_r1_0 x_r0_f0_f4 x_r0_f0_f3_F) = (0 : Int32)
  · obtain ⟨T10166, X10166, e10166, st10166⟩ := getF X10163 hx hZ hown (host := "") (Or.inl (hw _ (tk 31 rfl))) Via.refl e10163 F_permitted_r0 (g := (mkF m 41 (lt25 r0 r1 r1 (1 : Int32) (0 : Int32) x_r1_0) [(.ref r0)])) rfl rfl (hb hby d10_41)
    obtain ⟨cq10167, kq10167, q10167a, q10167b, q10167c⟩ := isOf hZ e10166 E_r0_f1
    obtain ⟨_, _, ⟨T10167, L10167, k10167, n10167⟩, -, X10167, ⟨Lc10167, hQ10167, l10167, y10167, z10167⟩, st10167⟩ := X10166.virtualBack hx (y := Y37) (z := Y37) hown (mvT hZ (hw _ (tk 63 rfl))) (mvT hZ (hw _ (tk 64 rfl))) (notFace_of_selects (args := #[]) (mvT hZ (hw _ (tk 66 rfl)))) (mvT hZ (hw _ (tk 66 rfl))) (mvT hZ (hw _ (tk 65 rfl))) (by decide) (backOf (W := 0) (rm11x1 l Z a0 hw hv [] w_1 w_2 hS0 r0_f1 x_r1_0 r0_f1_f3 x_r0_f1_f4 k_r0_f1_f3 x_r0_f1_f3_n x_r0_f1_f3_F h0 n0 O0 g_r0_f1 g_r0_f1_f3 E_r0_f1 F_words_r0_f1 F_wordsInUse_r0_f1 V_r0_f1_f3 ne_r0_f1_r0_f1_f3 as0 as1 as2) hZ (hw _ (tk 67 rfl)) (hw _ (tk 11 rfl)) (by decide) (by decide)) q10167a q10167c (g := (mkF m 46 (lt25 r0 r1 r1 (1 : Int32) (0 : Int32) x_r1_0) [(.int x_r1_0), (.ref r0_f1)])) rfl (by rw [hml]; rfl) (Steps.refl _) (argsL := [(.int x_r1_0)]) (rest := []) (lenOf pd_6 rfl) rfl (by show 2 * 0 + _ ≤ _; exact Nat.le_of_eq rfl) (hb hby d10_46) (fun _ _ => ⟨rfl, e10166, (by decide : 0 + 0 ≤ _), (by decide : 0 + 0 ≤ _)⟩)
    dsimp only [Pt.U, Pt.locs, Pt.cells, Pt.slots] at X10167 l10167 y10167 z10167 st10167 hQ10167
    subst l10167 y10167 z10167
    obtain ⟨rv10167, N10167q, e10167⟩ := hQ10167
    subst rv10167
    have N10167 := Fr.app N10163 N10167q
    have pre10168 : Cm p e below E0 (T10167.setTop (mkF m 49 (lt25 r0 r1 r1 (1 : Int32) (0 : Int32) x_r1_0) [(.int (sp11x1 x_r1_0 x_r0_f1_f4 x_r0_f1_f3_F))])) := fun t kt => by
      refine pre10164 t ?_
      show Sp p e below T10163 (mkF m 33 (lt25 r0 r1 r1 (1 : Int32) (0 : Int32) x_r1_0) [(.int (sp11x1 x_r1_0 x_r0_f0_f4 x_r0_f0_f3_F))]) _
      refine XS.ifYes X10163.here hx rfl (pc0 := 33) (pc' := 40) rfl (hb hby d10_33) rfl ((if0 _ _).trans (teq hc10165).1) (by decide) (by decide) ?_
      show Sp p e below T10163 (mkF m 40 (lt25 r0 r1 r1 (1 : Int32) (0 : Int32) x_r1_0) []) _
      refine XS.aloadN X10163.here hx rfl (hb hby d10_40) rfl rfl ?_
      show Sp p e below T10163 (mkF m 41 (lt25 r0 r1 r1 (1 : Int32) (0 : Int32) x_r1_0) [(.ref r0)]) _
      refine st10166 _ ?_
      show Sp p e below T10166 (mkF m 44 (lt25 r0 r1 r1 (1 : Int32) (0 : Int32) x_r1_0) [(.ref r0_f1)]) _
      refine XS.iload X10166.here hx rfl (hb hby d10_44) rfl ?_
      show Sp p e below T10166 (mkF m 46 (lt25 r0 r1 r1 (1 : Int32) (0 : Int32) x_r1_0) [(.int x_r1_0), (.ref r0_f1)]) _
      refine st10167.trans ?_
      show Sp p e below T10167 (mkF m 49 (lt25 r0 r1 r1 (1 : Int32) (0 : Int32) x_r1_0) [(.int (sp11x1 x_r1_0 x_r0_f1_f4 x_r0_f1_f3_F))]) _
      exact kt
    by_cases hc10169 : (sp11x1 x_r1_0 x_r0_f1_f4 x_r0_f1_f3_F) = (0 : Int32)
    · obtain ⟨fs, hr, hrun, hended, hW, hsame⟩ := X10167.leave (v := some .null) (fun h => by rw [Bd.returns] at h; cases h)
      refine ⟨_, _, pre10168 _ ?_, hrun, hended, _, _, rfl, ?_, ⟨_, rfl⟩, hW, hsame.mono (by decide) (by decide)⟩
      · show Sp p e below T10167 (mkF m 49 (lt25 r0 r1 r1 (1 : Int32) (0 : Int32) x_r1_0) [(.int (sp11x1 x_r1_0 x_r0_f1_f4 x_r0_f1_f3_F))]) _
        refine XS.ifYes X10167.here hx rfl (pc0 := 49) (pc' := 56) rfl (hb hby d10_49) rfl ((if0 _ _).trans (teq hc10169).1) (by decide) (by decide) ?_
        show Sp p e below T10167 (mkF m 56 (lt25 r0 r1 r1 (1 : Int32) (0 : Int32) x_r1_0) []) _
        refine XS.iinc X10167.here hx rfl (hb hby d10_56) rfl (l' := (lt25 r0 r1 r1 (1 : Int32) ((0 : Int32) + (1 : Int32)) x_r1_0)) rfl ?_
        show Sp p e below T10167 (mkF m 59 (lt25 r0 r1 r1 (1 : Int32) ((0 : Int32) + (1 : Int32)) x_r1_0) []) _
        refine XS.goto X10167.here hx rfl (pc0 := 59) (pc' := 11) rfl (hb hby d10_59) (by decide) (by decide) ?_
        show Sp p e below T10167 (mkF m 11 (lt25 r0 r1 r1 (1 : Int32) ((0 : Int32) + (1 : Int32)) x_r1_0) []) _
        refine XS.iload X10167.here hx rfl (hb hby d10_11) rfl ?_
        refine XS.iload X10167.here hx rfl (hb hby d10_13) rfl ?_
        show Sp p e below T10167 (mkF m 15 (lt25 r0 r1 r1 (1 : Int32) ((0 : Int32) + (1 : Int32)) x_r1_0) [(.int (1 : Int32)), (.int ((0 : Int32) + (1 : Int32)))]) _
        refine XS.icmpYes X10167.here hx rfl (pc0 := 15) (pc' := 62) rfl (hb hby d10_15) rfl (flt (by decide : ¬ (((0 : Int32) + (1 : Int32)) < (1 : Int32)))).2.1 (by decide) (by decide) ?_
        show Sp p e below T10167 (mkF m 62 (lt25 r0 r1 r1 (1 : Int32) ((0 : Int32) + (1 : Int32)) x_r1_0) []) _
        refine XS.aloadN X10167.here hx rfl (hb hby d10_62) rfl rfl ?_
        show Sp p e below T10167 (mkF m 63 (lt25 r0 r1 r1 (1 : Int32) ((0 : Int32) + (1 : Int32)) x_r1_0) [.null]) _
        jvm_step X10167.here [X10167.here.top, hx, (hb hby d10_63), X10167.method', Bd.returns, Value.isRef, FieldType.isReference]
        first | (intro acts; rw [hr _ acts rfl rfl rfl]) | rw [hr _ _ rfl rfl rfl]
        exact Steps.refl _
      · show Q10x2 Z w_1 w_2 r0 r1 r0_f0 r0_f0_f3 r0_f1 r0_f1_f3 x_r0_f0_f4 k_r0_f0_f3 x_r0_f0_f3_n x_r0_f0_f3_F x_r0_f1_f4 k_r0_f1_f3 x_r0_f1_f3_n x_r0_f1_f3_F k_r1 x_r1_0 h0 n0 _ T10167.heap _
        rw [e10167]
        exact ⟨by unfold sp10x2; rw [if_pos hc10165, if_pos hc10169], N10167, rfl⟩
    · obtain ⟨T10170, X10170, e10170, st10170⟩ := getS2 X10167 hx hZ hown (host := "") (Or.inl (hw _ (tk 92 rfl))) Via.refl e10167 (S_2.ext O0.2) (g := (mkF m 52 (lt25 r0 r1 r1 (1 : Int32) (0 : Int32) x_r1_0) [])) rfl (hb hby d10_52)
      obtain ⟨fs, hr, hrun, hended, hW, hsame⟩ := X10170.leave (v := some (.ref w_2)) (fun h => by rw [Bd.returns] at h; cases h)
      refine ⟨_, _, pre10168 _ ?_, hrun, hended, _, _, rfl, ?_, ⟨_, rfl⟩, hW, hsame.mono (by decide) (by decide)⟩
      · show Sp p e below T10167 (mkF m 49 (lt25 r0 r1 r1 (1 : Int32) (0 : Int32) x_r1_0) [(.int (sp11x1 x_r1_0 x_r0_f1_f4 x_r0_f1_f3_F))]) _
        refine XS.ifNo X10167.here hx rfl (hb hby d10_49) rfl ((if0 _ _).trans (feq hc10169).1) ?_
        show Sp p e below T10167 (mkF m 52 (lt25 r0 r1 r1 (1 : Int32) (0 : Int32) x_r1_0) []) _
        refine st10170 _ ?_
        show Sp p e below T10170 (mkF m 55 (lt25 r0 r1 r1 (1 : Int32) (0 : Int32) x_r1_0) [(.ref w_2)]) _
        refine XS.astoreN X10170.here hx rfl (hb hby d10_55) rfl rfl (l' := (lt26 r0 r1 w_2 r1 (1 : Int32) (0 : Int32) x_r1_0)) rfl ?_
        refine XS.iinc X10170.here hx rfl (hb hby d10_56) rfl (l' := (lt26 r0 r1 w_2 r1 (1 : Int32) ((0 : Int32) + (1 : Int32)) x_r1_0)) rfl ?_
        show Sp p e below T10170 (mkF m 59 (lt26 r0 r1 w_2 r1 (1 : Int32) ((0 : Int32) + (1 : Int32)) x_r1_0) []) _
        refine XS.goto X10170.here hx rfl (pc0 := 59) (pc' := 11) rfl (hb hby d10_59) (by decide) (by decide) ?_
        show Sp p e below T10170 (mkF m 11 (lt26 r0 r1 w_2 r1 (1 : Int32) ((0 : Int32) + (1 : Int32)) x_r1_0) []) _
        refine XS.iload X10170.here hx rfl (hb hby d10_11) rfl ?_
        refine XS.iload X10170.here hx rfl (hb hby d10_13) rfl ?_
        show Sp p e below T10170 (mkF m 15 (lt26 r0 r1 w_2 r1 (1 : Int32) ((0 : Int32) + (1 : Int32)) x_r1_0) [(.int (1 : Int32)), (.int ((0 : Int32) + (1 : Int32)))]) _
        refine XS.icmpYes X10170.here hx rfl (pc0 := 15) (pc' := 62) rfl (hb hby d10_15) rfl (flt (by decide : ¬ (((0 : Int32) + (1 : Int32)) < (1 : Int32)))).2.1 (by decide) (by decide) ?_
        show Sp p e below T10170 (mkF m 62 (lt26 r0 r1 w_2 r1 (1 : Int32) ((0 : Int32) + (1 : Int32)) x_r1_0) []) _
        refine XS.aloadN X10170.here hx rfl (hb hby d10_62) rfl rfl ?_
        show Sp p e below T10170 (mkF m 63 (lt26 r0 r1 w_2 r1 (1 : Int32) ((0 : Int32) + (1 : Int32)) x_r1_0) [(.ref w_2)]) _
        jvm_step X10170.here [X10170.here.top, hx, (hb hby d10_63), X10170.method', Bd.returns, Value.isRef, FieldType.isReference]
        first | (intro acts; rw [hr _ acts rfl rfl rfl]) | rw [hr _ _ rfl rfl rfl]
        exact Steps.refl _
      · show Q10x2 Z w_1 w_2 r0 r1 r0_f0 r0_f0_f3 r0_f1 r0_f1_f3 x_r0_f0_f4 k_r0_f0_f3 x_r0_f0_f3_n x_r0_f0_f3_F x_r0_f1_f4 k_r0_f1_f3 x_r0_f1_f3_n x_r0_f1_f3_F k_r1 x_r1_0 h0 n0 _ T10170.heap _
        rw [e10170]
        exact ⟨by unfold sp10x2; rw [if_pos hc10165, if_neg hc10169], N10167, rfl⟩
  · obtain ⟨T10171, X10171, e10171, st10171⟩ := getS2 X10163 hx hZ hown (host := "") (Or.inl (hw _ (tk 88 rfl))) Via.refl e10163 (S_1.ext O0.2) (g := (mkF m 36 (lt25 r0 r1 r1 (1 : Int32) (0 : Int32) x_r1_0) [])) rfl (hb hby d10_36)
    obtain ⟨fs, hr, hrun, hended, hW, hsame⟩ := X10171.leave (v := some (.ref w_1)) (fun h => by rw [Bd.returns] at h; cases h)
    refine ⟨_, _, pre10164 _ ?_, hrun, hended, _, _, rfl, ?_, ⟨_, rfl⟩, hW, hsame.mono (by decide) (by decide)⟩
    · show Sp p e below T10163 (mkF m 33 (lt25 r0 r1 r1 (1 : Int32) (0 : Int32) x_r1_0) [(.int (sp11x1 x_r1_0 x_r0_f0_f4 x_r0_f0_f3_F))]) _
      refine XS.ifNo X10163.here hx rfl (hb hby d10_33) rfl ((if0 _ _).trans (feq hc10165).1) ?_
      show Sp p e below T10163 (mkF m 36 (lt25 r0 r1 r1 (1 : Int32) (0 : Int32) x_r1_0) []) _
      refine st10171 _ ?_
      show Sp p e below T10171 (mkF m 39 (lt25 r0 r1 r1 (1 : Int32) (0 : Int32) x_r1_0) [(.ref w_1)]) _
      jvm_step X10171.here [X10171.here.top, hx, (hb hby d10_39), X10171.method', Bd.returns, Value.isRef, FieldType.isReference]
      first | (intro acts; rw [hr _ acts rfl rfl rfl]) | rw [hr _ _ rfl rfl rfl]
      exact Steps.refl _
    · show Q10x2 Z w_1 w_2 r0 r1 r0_f0 r0_f0_f3 r0_f1 r0_f1_f3 x_r0_f0_f4 k_r0_f0_f3 x_r0_f0_f3_n x_r0_f0_f3_F x_r0_f1_f4 k_r0_f1_f3 x_r0_f1_f3_n x_r0_f1_f3_F k_r1 x_r1_0 h0 n0 _ T10171.heap _
      rw [e10171]
      exact ⟨by unfold sp10x2; rw [if_neg hc10165], N10163, rfl⟩
theorem isr10x2 (w_1 : Addr) (w_2 : Addr) (x_r0_f0_f4 : Int32) (x_r0_f0_f3_F : Nat → Int64) (x_r0_f1_f4 : Int32) (x_r0_f1_f3_F : Nat → Int64) (x_r1_0 : Int32) : (sp10x2 w_1 w_2 x_r0_f0_f4 x_r0_f0_f3_F x_r0_f1_f4 x_r0_f1_f3_F x_r1_0).isRef = true := (own_iteR (own_iteR rfl rfl) rfl)
theorem pn_12 : plainName "com/example/vetd/vetd/LinesAnswerPinLaw" = true := by first | (simp [plainName, overriddenIn]; done) | decide +kernel
theorem ef_12 (m : MethodId) (p0 : Int32) (p1 : Int32) : entryFrame m #[(.int p0), (.int p1)] 2 = mkF m 0 #[.val (.int p0), .val (.int p1)] [] := by first | (simp [entryFrame, mkF, argsToLocals, Value.category]; done) | rfl
def sp12 (p0 : Int32) (p1 : Int32) : Int32 := (if p1 < (4 : Int32) then (if (((p0.toUInt32 >>> (p1 &&& 31).toUInt32).toInt32) &&& (1 : Int32)) = (0 : Int32) then (0 : Int32) else (1 : Int32)) else (0 : Int32))
def Q12 (Z : State) (w_1 : Addr) (w_2 : Addr) (p0 : Int32) (p1 : Int32) (h0 : Heap) (n0 : Nat) (v : Option Value) (h : Heap) (L : List Loc) : Prop := v = some (.int (sp12 p0 p1)) ∧ Fr n0 L ∧ h = h0
set_option maxRecDepth 65536 in
set_option maxHeartbeats 40000000 in
theorem rm12 (l : Launch) (Z : State) (a0 : Array Value) (hw : ∀ d ∈ tables_1, d.before a0 Z = true) (hv : ∀ d ∈ jdkStatics_1, d.before a0 Z = true) (ws : List Jvm.Cond) (w_1 : Addr) (w_2 : Addr) (hS : StF Z w_1 w_2) (p0 : Int32) (p1 : Int32) (h0 : Heap) (n0 : Nat) (O0 : Old Z n0 h0) :
    MetFree l Y40 (head1 (Jvm.Cond.code Y40 method_3_code 2 (some .boolean) :: ws) ({ frames := 0, cells := 0, slots := 0, locals := 0 } : Room)) (fun a U => a = #[(.int p0), (.int p1)] ∧ Z.Warmed39 U.vm ∧ U.heap = h0) (fun _ _ _ _ _ => True) (fun _ U o U' => ∃ v L, o = .returned v ∧ Q12 Z w_1 w_2 p0 p1 h0 n0 v U'.heap L ∧ FrameEnd U o U' L ({ frames := 0, cells := 0, slots := 0, locals := 0 } : Room).cells ({ frames := 0, cells := 0, slots := 0, locals := 0 } : Room).slots) := by
  refine MetFree.of_bodySF (plainFor_of_name pn_12) hisR ?_
  intro p e s m args below meth c s₁ Bd hml0 hP hK
  obtain ⟨rfl, hZ, hh⟩ := hP
  have hx := Bd.exec
  have hby := Bd.bytes
  have hml : c.maxLocals = 2 := hml0
  have hown : s.vm.findClass "com/example/vetd/vetd/LinesAnswerPinLaw" = some m.cls := findClass_of_methodNamed Bd.named
  have hnm := (name_of_methodNamed Bd.named Bd.method).1
  have X0 : Stand p l e ({ frames := 0, cells := 0, slots := 0, locals := 0 } : Room) s m #[(.int p0), (.int p1)] below meth c s₁ [] 0 0 := Stand.of_body Bd
  have e0 : s₁.heap = h0 := by rw [← hh, Bd.state]; rfl
  have N0 := Fr.nil n0
  have hS0 := hS
  obtain ⟨S_1, E_1, S_2, E_2, S_3⟩ := hS
  have pre0 : ∀ t, Steps p.tables e below (s₁.setTop (mkF m 0 #[.val (.int p0), .val (.int p1)] [])) t → Steps p.tables e below (s₁.setTop (entryFrame m #[(.int p0), (.int p1)] 2)) t := fun t k => castTop (ef_12 m p0 p1) k
  generalize hE0 : s₁.setTop (entryFrame m #[(.int p0), (.int p1)] 2) = E0 at pre0 ⊢
  have pre10188 : Cm p e below E0 (s₁.setTop (mkF m 2 (lt9 p0 p1) [(.int (4 : Int32)), (.int p1)])) := fun t kt => by
    refine pre0 t ?_
    show Sp p e below s₁ (mkF m 0 (lt9 p0 p1) []) _
    refine XS.iloadN X0.here hx rfl (hb hby d12_0) rfl ?_
    refine XS.iconst X0.here hx rfl (hb hby d12_1) ?_
    show Sp p e below s₁ (mkF m 2 (lt9 p0 p1) [(.int (4 : Int32)), (.int p1)]) _
    exact kt
  by_cases hc10189 : p1 < (4 : Int32)
  · have pre10190 : Cm p e below E0 (s₁.setTop (mkF m 10 (lt9 p0 p1) [(.int (((p0.toUInt32 >>> (p1 &&& 31).toUInt32).toInt32) &&& (1 : Int32)))])) := fun t kt => by
      refine pre10188 t ?_
      show Sp p e below s₁ (mkF m 2 (lt9 p0 p1) [(.int (4 : Int32)), (.int p1)]) _
      refine XS.icmpNo X0.here hx rfl (hb hby d12_2) rfl (tlt hc10189).2.1 ?_
      show Sp p e below s₁ (mkF m 5 (lt9 p0 p1) []) _
      refine XS.iloadN X0.here hx rfl (hb hby d12_5) rfl ?_
      refine XS.iloadN X0.here hx rfl (hb hby d12_6) rfl ?_
      show Sp p e below s₁ (mkF m 7 (lt9 p0 p1) [(.int p1), (.int p0)]) _
      refine XS.iushr X0.here hx rfl (hb hby d12_7) rfl ?_
      refine XS.iconst X0.here hx rfl (hb hby d12_8) ?_
      show Sp p e below s₁ (mkF m 9 (lt9 p0 p1) [(.int (1 : Int32)), (.int ((p0.toUInt32 >>> (p1 &&& 31).toUInt32).toInt32))]) _
      refine XS.iand X0.here hx rfl (hb hby d12_9) rfl ?_
      show Sp p e below s₁ (mkF m 10 (lt9 p0 p1) [(.int (((p0.toUInt32 >>> (p1 &&& 31).toUInt32).toInt32) &&& (1 : Int32)))]) _
      exact kt
    by_cases hc10191 : (((p0.toUInt32 >>> (p1 &&& 31).toUInt32).toInt32) &&& (1 : Int32)) = (0 : Int32)
    · obtain ⟨fs, hr, hrun, hended, hW, hsame⟩ := X0.leave (v := some (.int (0 : Int32))) (fun h => by rw [Bd.returns] at h; cases h)
      refine ⟨_, _, pre10190 _ ?_, hrun, hended, _, _, rfl, ?_, ⟨_, rfl⟩, hW, hsame.mono (by decide) (by decide)⟩
      · show Sp p e below s₁ (mkF m 10 (lt9 p0 p1) [(.int (((p0.toUInt32 >>> (p1 &&& 31).toUInt32).toInt32) &&& (1 : Int32)))]) _
        refine XS.ifYes X0.here hx rfl (pc0 := 10) (pc' := 17) rfl (hb hby d12_10) rfl ((if0 _ _).trans (teq hc10191).1) (by decide) (by decide) ?_
        show Sp p e below s₁ (mkF m 17 (lt9 p0 p1) []) _
        refine XS.iconst X0.here hx rfl (hb hby d12_17) ?_
        show Sp p e below s₁ (mkF m 18 (lt9 p0 p1) [(.int (0 : Int32))]) _
        exact retN X0 hx (t := .boolean) Bd.returns (by simp) (hb hby d12_18) hr
      · show Q12 Z w_1 w_2 p0 p1 h0 n0 _ s₁.heap _
        rw [e0]
        exact ⟨by unfold sp12; rw [if_pos hc10189, if_pos hc10191], N0, rfl⟩
    · obtain ⟨fs, hr, hrun, hended, hW, hsame⟩ := X0.leave (v := some (.int (1 : Int32))) (fun h => by rw [Bd.returns] at h; cases h)
      refine ⟨_, _, pre10190 _ ?_, hrun, hended, _, _, rfl, ?_, ⟨_, rfl⟩, hW, hsame.mono (by decide) (by decide)⟩
      · show Sp p e below s₁ (mkF m 10 (lt9 p0 p1) [(.int (((p0.toUInt32 >>> (p1 &&& 31).toUInt32).toInt32) &&& (1 : Int32)))]) _
        refine XS.ifNo X0.here hx rfl (hb hby d12_10) rfl ((if0 _ _).trans (feq hc10191).1) ?_
        show Sp p e below s₁ (mkF m 13 (lt9 p0 p1) []) _
        refine XS.iconst X0.here hx rfl (hb hby d12_13) ?_
        show Sp p e below s₁ (mkF m 14 (lt9 p0 p1) [(.int (1 : Int32))]) _
        refine XS.goto X0.here hx rfl (pc0 := 14) (pc' := 18) rfl (hb hby d12_14) (by decide) (by decide) ?_
        show Sp p e below s₁ (mkF m 18 (lt9 p0 p1) [(.int (1 : Int32))]) _
        exact retN X0 hx (t := .boolean) Bd.returns (by simp) (hb hby d12_18) hr
      · show Q12 Z w_1 w_2 p0 p1 h0 n0 _ s₁.heap _
        rw [e0]
        exact ⟨by unfold sp12; rw [if_pos hc10189, if_neg hc10191], N0, rfl⟩
  · obtain ⟨fs, hr, hrun, hended, hW, hsame⟩ := X0.leave (v := some (.int (0 : Int32))) (fun h => by rw [Bd.returns] at h; cases h)
    refine ⟨_, _, pre10188 _ ?_, hrun, hended, _, _, rfl, ?_, ⟨_, rfl⟩, hW, hsame.mono (by decide) (by decide)⟩
    · show Sp p e below s₁ (mkF m 2 (lt9 p0 p1) [(.int (4 : Int32)), (.int p1)]) _
      refine XS.icmpYes X0.here hx rfl (pc0 := 2) (pc' := 17) rfl (hb hby d12_2) rfl (flt hc10189).2.1 (by decide) (by decide) ?_
      show Sp p e below s₁ (mkF m 17 (lt9 p0 p1) []) _
      refine XS.iconst X0.here hx rfl (hb hby d12_17) ?_
      show Sp p e below s₁ (mkF m 18 (lt9 p0 p1) [(.int (0 : Int32))]) _
      exact retN X0 hx (t := .boolean) Bd.returns (by simp) (hb hby d12_18) hr
    · show Q12 Z w_1 w_2 p0 p1 h0 n0 _ s₁.heap _
      rw [e0]
      exact ⟨by unfold sp12; rw [if_neg hc10189], N0, rfl⟩
theorem pn_10x3 : plainName "com/example/vetd/vetd/Policy$Lines" = true := by first | (simp [plainName, overriddenIn]; done) | decide +kernel
theorem ef_10x3 (m : MethodId) (r0 : Addr) (r1 : Addr) : entryFrame m #[(.ref r0), (.ref r1)] 7 = mkF m 0 #[.val (.ref r0), .val (.ref r1), .unset, .unset, .unset, .unset, .unset] [] := by first | (simp [entryFrame, mkF, argsToLocals, Value.category]; done) | rfl
def sp10x3 (w_1 : Addr) (w_2 : Addr) (x_r0_f0_f4 : Int32) (x_r0_f0_f3_F : Nat → Int64) (x_r0_f1_f4 : Int32) (x_r0_f1_f3_F : Nat → Int64) (x_r1_0 : Int32) (x_r1_1 : Int32) : Value := (if (sp11x1 x_r1_0 x_r0_f0_f4 x_r0_f0_f3_F) = (0 : Int32) then (if (sp11x1 x_r1_0 x_r0_f1_f4 x_r0_f1_f3_F) = (0 : Int32) then (if (sp11x1 x_r1_1 x_r0_f0_f4 x_r0_f0_f3_F) = (0 : Int32) then (if (sp11x1 x_r1_1 x_r0_f1_f4 x_r0_f1_f3_F) = (0 : Int32) then .null else (.ref w_2)) else (.ref w_1)) else (if (sp11x1 x_r1_1 x_r0_f0_f4 x_r0_f0_f3_F) = (0 : Int32) then (if (sp11x1 x_r1_1 x_r0_f1_f4 x_r0_f1_f3_F) = (0 : Int32) then (.ref w_2) else (.ref w_2)) else (.ref w_1))) else (.ref w_1))
def Q10x3 (Z : State) (w_1 : Addr) (w_2 : Addr) (r0 : Addr) (r1 : Addr) (r0_f0 : Addr) (r0_f0_f3 : Addr) (r0_f1 : Addr) (r0_f1_f3 : Addr) (x_r0_f0_f4 : Int32) (k_r0_f0_f3 : ClassId) (x_r0_f0_f3_n : Int32) (x_r0_f0_f3_F : Nat → Int64) (x_r0_f1_f4 : Int32) (k_r0_f1_f3 : ClassId) (x_r0_f1_f3_n : Int32) (x_r0_f1_f3_F : Nat → Int64) (k_r1 : ClassId) (x_r1_0 : Int32) (x_r1_1 : Int32) (h0 : Heap) (n0 : Nat) (v : Option Value) (h : Heap) (L : List Loc) : Prop := v = some (sp10x3 w_1 w_2 x_r0_f0_f4 x_r0_f0_f3_F x_r0_f1_f4 x_r0_f1_f3_F x_r1_0 x_r1_1) ∧ Fr n0 L ∧ h = h0
set_option maxRecDepth 65536 in
set_option maxHeartbeats 40000000 in
theorem rm10x3 (l : Launch) (Z : State) (a0 : Array Value) (hw : ∀ d ∈ tables_1, d.before a0 Z = true) (hv : ∀ d ∈ jdkStatics_1, d.before a0 Z = true) (ws : List Jvm.Cond) (w_1 : Addr) (w_2 : Addr) (hS : StF Z w_1 w_2) (r0 : Addr) (r1 : Addr) (r0_f0 : Addr) (r0_f0_f3 : Addr) (r0_f1 : Addr) (r0_f1_f3 : Addr) (x_r0_f0_f4 : Int32) (k_r0_f0_f3 : ClassId) (x_r0_f0_f3_n : Int32) (x_r0_f0_f3_F : Nat → Int64) (x_r0_f1_f4 : Int32) (k_r0_f1_f3 : ClassId) (x_r0_f1_f3_n : Int32) (x_r0_f1_f3_F : Nat → Int64) (k_r1 : ClassId) (x_r1_0 : Int32) (x_r1_1 : Int32) (h0 : Heap) (n0 : Nat) (O0 : Old Z n0 h0) (g_r0 : n0 ≤ r0) (g_r0_f0 : n0 ≤ r0_f0) (g_r0_f0_f3 : n0 ≤ r0_f0_f3) (g_r0_f1 : n0 ≤ r0_f1) (g_r0_f1_f3 : n0 ≤ r0_f1_f3) (g_r1 : n0 ≤ r1) (E_r0 : Exa Z h0 r0 "com/example/vetd/vetd/Policy$Lines") (F_denied_r0 : Fld Z h0 r0 "com/example/vetd/vetd/Policy$Lines" "denied" "Ljava/util/BitSet;" (.ref r0_f0)) (F_permitted_r0 : Fld Z h0 r0 "com/example/vetd/vetd/Policy$Lines" "permitted" "Ljava/util/BitSet;" (.ref r0_f1)) (E_r0_f0 : Exa Z h0 r0_f0 "java/util/BitSet") (F_words_r0_f0 : Fld Z h0 r0_f0 "java/util/BitSet" "words" "[J" (.ref r0_f0_f3)) (F_wordsInUse_r0_f0 : Fld Z h0 r0_f0 "java/util/BitSet" "wordsInUse" "I" (.int x_r0_f0_f4)) (V_r0_f0_f3 : Arj Z h0 r0_f0_f3 k_r0_f0_f3 x_r0_f0_f3_n x_r0_f0_f3_F) (E_r0_f1 : Exa Z h0 r0_f1 "java/util/BitSet") (F_words_r0_f1 : Fld Z h0 r0_f1 "java/util/BitSet" "words" "[J" (.ref r0_f1_f3)) (F_wordsInUse_r0_f1 : Fld Z h0 r0_f1 "java/util/BitSet" "wordsInUse" "I" (.int x_r0_f1_f4)) (V_r0_f1_f3 : Arj Z h0 r0_f1_f3 k_r0_f1_f3 x_r0_f1_f3_n x_r0_f1_f3_F) (V_r1 : Arv Z h0 r1 k_r1 .int (2 : Int32) [(.int x_r1_0), (.int x_r1_1)] (.int (0 : Int32))) (ne_r0_r0_f0 : r0 ≠ r0_f0) (ne_r0_r0_f0_f3 : r0 ≠ r0_f0_f3) (ne_r0_r0_f1 : r0 ≠ r0_f1) (ne_r0_r0_f1_f3 : r0 ≠ r0_f1_f3) (ne_r0_r1 : r0 ≠ r1) (ne_r0_f0_r0_f0_f3 : r0_f0 ≠ r0_f0_f3) (ne_r0_f0_r0_f1 : r0_f0 ≠ r0_f1) (ne_r0_f0_r0_f1_f3 : r0_f0 ≠ r0_f1_f3) (ne_r0_f0_r1 : r0_f0 ≠ r1) (ne_r0_f0_f3_r0_f1 : r0_f0_f3 ≠ r0_f1) (ne_r0_f0_f3_r0_f1_f3 : r0_f0_f3 ≠ r0_f1_f3) (ne_r0_f0_f3_r1 : r0_f0_f3 ≠ r1) (ne_r0_f1_r0_f1_f3 : r0_f1 ≠ r0_f1_f3) (ne_r0_f1_r1 : r0_f1 ≠ r1) (ne_r0_f1_f3_r1 : r0_f1_f3 ≠ r1) (as0 : ¬ (x_r1_0 < (0 : Int32))) (as1 : ¬ ((x_r1_0 >>> ((6 : Int32) &&& 31)) < (0 : Int32))) (as2 : ¬ (x_r1_1 < (0 : Int32))) (as3 : ¬ ((x_r1_1 >>> ((6 : Int32) &&& 31)) < (0 : Int32))) (as4 : ¬ (x_r0_f1_f3_n < x_r0_f1_f4)) (as5 : ¬ (x_r0_f0_f3_n < x_r0_f0_f4)) :
    MetFree l Y31 (head1 (Jvm.Cond.code Y31 prog_20_method_2_code 7 (some (.object "com/example/vetd/vetd/Decision")) :: ws) ({ frames := 2, cells := 0, slots := 0, locals := 26 } : Room)) (fun a U => a = #[(.ref r0), (.ref r1)] ∧ Z.Warmed39 U.vm ∧ U.heap = h0) (fun _ _ _ _ _ => True) (fun _ U o U' => ∃ v L, o = .returned v ∧ Q10x3 Z w_1 w_2 r0 r1 r0_f0 r0_f0_f3 r0_f1 r0_f1_f3 x_r0_f0_f4 k_r0_f0_f3 x_r0_f0_f3_n x_r0_f0_f3_F x_r0_f1_f4 k_r0_f1_f3 x_r0_f1_f3_n x_r0_f1_f3_F k_r1 x_r1_0 x_r1_1 h0 n0 v U'.heap L ∧ FrameEnd U o U' L ({ frames := 2, cells := 0, slots := 0, locals := 26 } : Room).cells ({ frames := 2, cells := 0, slots := 0, locals := 26 } : Room).slots) := by
  refine MetFree.of_bodySF (plainFor_of_name pn_10x3) hisR ?_
  intro p e s m args below meth c s₁ Bd hml0 hP hK
  obtain ⟨rfl, hZ, hh⟩ := hP
  have hx := Bd.exec
  have hby := Bd.bytes
  have hml : c.maxLocals = 7 := hml0
  have hown : s.vm.findClass "com/example/vetd/vetd/Policy$Lines" = some m.cls := findClass_of_methodNamed Bd.named
  have hnm := (name_of_methodNamed Bd.named Bd.method).1
  have X0 : Stand p l e ({ frames := 2, cells := 0, slots := 0, locals := 26 } : Room) s m #[(.ref r0), (.ref r1)] below meth c s₁ [] 0 0 := Stand.of_body Bd
  have e0 : s₁.heap = h0 := by rw [← hh, Bd.state]; rfl
  have N0 := Fr.nil n0
  have hS0 := hS
  obtain ⟨S_1, E_1, S_2, E_2, S_3⟩ := hS
  have pre0 : ∀ t, Steps p.tables e below (s₁.setTop (mkF m 0 #[.val (.ref r0), .val (.ref r1), .unset, .unset, .unset, .unset, .unset] [])) t → Steps p.tables e below (s₁.setTop (entryFrame m #[(.ref r0), (.ref r1)] 7)) t := fun t k => castTop (ef_10x3 m r0 r1) k
  generalize hE0 : s₁.setTop (entryFrame m #[(.ref r0), (.ref r1)] 7) = E0 at pre0 ⊢
  obtain ⟨cl10215, Ar10215, qa10215, Sa10215, Ma10215, Ha10215, Ga10215⟩ := id V_r1
  obtain ⟨cl10216, Ar10216, qa10216, Sa10216, Ma10216, Ha10216, Ga10216⟩ := id V_r1
  have hin10216 : ¬ ((0 : Int32) < 0 ∨ cl10216.slots.size ≤ ((0 : Int32)).toNatClampNeg) := by  exact inb_of Sa10216 ⟨by decide, by decide⟩
  have hat10216 : cl10216.slots[((0 : Int32)).toNatClampNeg]? = some (.int x_r1_0) := Has.at Ha10216 hin10216 (by rfl)
  obtain ⟨T10217, X10217, e10217, st10217⟩ := getF X0 hx hZ hown (host := "") (Or.inl (hw _ (tk 33 rfl))) Via.refl e0 F_denied_r0 (g := (mkF m 25 (lt25 r0 r1 r1 (2 : Int32) (0 : Int32) x_r1_0) [(.ref r0)])) rfl rfl (hb hby d10_25)
  obtain ⟨cq10218, kq10218, q10218a, q10218b, q10218c⟩ := isOf hZ e10217 E_r0_f0
  obtain ⟨_, _, ⟨T10218, L10218, k10218, n10218⟩, -, X10218, ⟨Lc10218, hQ10218, l10218, y10218, z10218⟩, st10218⟩ := X10217.virtualBack hx (y := Y37) (z := Y37) hown (mvT hZ (hw _ (tk 63 rfl))) (mvT hZ (hw _ (tk 64 rfl))) (notFace_of_selects (args := #[]) (mvT hZ (hw _ (tk 66 rfl)))) (mvT hZ (hw _ (tk 66 rfl))) (mvT hZ (hw _ (tk 65 rfl))) (by decide) (backOf (W := 0) (rm11x1 l Z a0 hw hv [] w_1 w_2 hS0 r0_f0 x_r1_0 r0_f0_f3 x_r0_f0_f4 k_r0_f0_f3 x_r0_f0_f3_n x_r0_f0_f3_F h0 n0 O0 g_r0_f0 g_r0_f0_f3 E_r0_f0 F_words_r0_f0 F_wordsInUse_r0_f0 V_r0_f0_f3 ne_r0_f0_r0_f0_f3 as0 as1 as5) hZ (hw _ (tk 67 rfl)) (hw _ (tk 11 rfl)) (by decide) (by decide)) q10218a q10218c (g := (mkF m 30 (lt25 r0 r1 r1 (2 : Int32) (0 : Int32) x_r1_0) [(.int x_r1_0), (.ref r0_f0)])) rfl (by rw [hml]; rfl) (Steps.refl _) (argsL := [(.int x_r1_0)]) (rest := []) (lenOf pd_6 rfl) rfl (by show 2 * 0 + _ ≤ _; exact Nat.le_of_eq rfl) (hb hby d10_30) (fun _ _ => ⟨rfl, e10217, (by decide : 0 + 0 ≤ _), (by decide : 0 + 0 ≤ _)⟩)
  dsimp only [Pt.U, Pt.locs, Pt.cells, Pt.slots] at X10218 l10218 y10218 z10218 st10218 hQ10218
  subst l10218 y10218 z10218
  obtain ⟨rv10218, N10218q, e10218⟩ := hQ10218
  subst rv10218
  have N10218 := Fr.app N0 N10218q
  have pre10219 : Cm p e below E0 (T10218.setTop (mkF m 33 (lt25 r0 r1 r1 (2 : Int32) (0 : Int32) x_r1_0) [(.int (sp11x1 x_r1_0 x_r0_f0_f4 x_r0_f0_f3_F))])) := fun t kt => by
    refine pre0 t ?_
    show Sp p e below s₁ (mkF m 0 (lt16 r0 r1) []) _
    refine XS.aconstNull X0.here hx rfl (hb hby d10_0) ?_
    refine XS.astoreN X0.here hx rfl (hb hby d10_1) rfl rfl (l' := (lt17 r0 r1)) rfl ?_
    show Sp p e below s₁ (mkF m 2 (lt17 r0 r1) []) _
    refine XS.aloadN X0.here hx rfl (hb hby d10_2) rfl rfl ?_
    refine XS.astoreN X0.here hx rfl (hb hby d10_3) rfl rfl (l' := (lt18 r0 r1 r1)) rfl ?_
    show Sp p e below s₁ (mkF m 4 (lt18 r0 r1 r1) []) _
    refine XS.aloadN X0.here hx rfl (hb hby d10_4) rfl rfl ?_
    show Sp p e below s₁ (mkF m 5 (lt18 r0 r1 r1) [(.ref r1)]) _
    refine X0.arraylength hx (by rw [e0]; exact Ar10215.1) (State.isArrayOf_alike hZ.alike Ar10215.2.1) (g := (mkF m 5 (lt18 r0 r1 r1) [(.ref r1)])) rfl rfl (hb hby d10_5) _ ?_
    rw [len_of Sa10215 Ma10215]
    show Sp p e below s₁ (mkF m 6 (lt18 r0 r1 r1) [(.int (2 : Int32))]) _
    refine XS.istore X0.here hx rfl (hb hby d10_6) rfl (l' := (lt19 r0 r1 r1 (2 : Int32))) rfl ?_
    refine XS.iconst X0.here hx rfl (hb hby d10_8) ?_
    show Sp p e below s₁ (mkF m 9 (lt19 r0 r1 r1 (2 : Int32)) [(.int (0 : Int32))]) _
    refine XS.istore X0.here hx rfl (hb hby d10_9) rfl (l' := (lt20 r0 r1 r1 (2 : Int32) (0 : Int32))) rfl ?_
    refine XS.iload X0.here hx rfl (hb hby d10_11) rfl ?_
    show Sp p e below s₁ (mkF m 13 (lt20 r0 r1 r1 (2 : Int32) (0 : Int32)) [(.int (0 : Int32))]) _
    refine XS.iload X0.here hx rfl (hb hby d10_13) rfl ?_
    show Sp p e below s₁ (mkF m 15 (lt20 r0 r1 r1 (2 : Int32) (0 : Int32)) [(.int (2 : Int32)), (.int (0 : Int32))]) _
    refine XS.icmpNo X0.here hx rfl (hb hby d10_15) rfl (tlt (by decide : ((0 : Int32) < (2 : Int32)))).2.1 ?_
    show Sp p e below s₁ (mkF m 18 (lt20 r0 r1 r1 (2 : Int32) (0 : Int32)) []) _
    refine XS.aloadN X0.here hx rfl (hb hby d10_18) rfl rfl ?_
    refine XS.iload X0.here hx rfl (hb hby d10_19) rfl ?_
    show Sp p e below s₁ (mkF m 21 (lt20 r0 r1 r1 (2 : Int32) (0 : Int32)) [(.int (0 : Int32)), (.ref r1)]) _
    refine X0.iaload hx (j := (0 : Int32)) (v := (.int x_r1_0)) (by rw [e0]; exact Ar10216.1) (State.isArrayOf_alike hZ.alike Ar10216.2.1) Ar10216.2.2 hin10216 hat10216 (g := (mkF m 21 (lt20 r0 r1 r1 (2 : Int32) (0 : Int32)) [(.int (0 : Int32)), (.ref r1)])) rfl rfl (hb hby d10_21) _ ?_
    show Sp p e below s₁ (mkF m 22 (lt20 r0 r1 r1 (2 : Int32) (0 : Int32)) [(.int x_r1_0)]) _
    refine XS.istore X0.here hx rfl (hb hby d10_22) rfl (l' := (lt25 r0 r1 r1 (2 : Int32) (0 : Int32) x_r1_0)) rfl ?_
    refine XS.aloadN X0.here hx rfl (hb hby d10_24) rfl rfl ?_
    show Sp p e below s₁ (mkF m 25 (lt25 r0 r1 r1 (2 : Int32) (0 : Int32) x_r1_0) [(.ref r0)]) _
    refine st10217 _ ?_
    show Sp p e below T10217 (mkF m 28 (lt25 r0 r1 r1 (2 : Int32) (0 : Int32) x_r1_0) [(.ref r0_f0)]) _
    refine XS.iload X10217.here hx rfl (hb hby d10_28) rfl ?_
    show Sp p e below T10217 (mkF m 30 (lt25 r0 r1 r1 (2 : Int32) (0 : Int32) x_r1_0) [(.int x_r1_0), (.ref r0_f0)]) _
    refine st10218.trans ?_
    show Sp p e below T10218 (mkF m 33 (lt25 r0 r1 r1 (2 : Int32) (0 : Int32) x_r1_0) [(.int (sp11x1 x_r1_0 x_r0_f0_f4 x_r0_f0_f3_F))]) _
    exact kt
  by_cases hc10220 : (sp11x1 x_r1_0 x_r0_f0_f4 x_r0_f0_f3_F) = (0 : Int32)
  · obtain ⟨T10221, X10221, e10221, st10221⟩ := getF X10218 hx hZ hown (host := "") (Or.inl (hw _ (tk 31 rfl))) Via.refl e10218 F_permitted_r0 (g := (mkF m 41 (lt25 r0 r1 r1 (2 : Int32) (0 : Int32) x_r1_0) [(.ref r0)])) rfl rfl (hb hby d10_41)
    obtain ⟨cq10222, kq10222, q10222a, q10222b, q10222c⟩ := isOf hZ e10221 E_r0_f1
    obtain ⟨_, _, ⟨T10222, L10222, k10222, n10222⟩, -, X10222, ⟨Lc10222, hQ10222, l10222, y10222, z10222⟩, st10222⟩ := X10221.virtualBack hx (y := Y37) (z := Y37) hown (mvT hZ (hw _ (tk 63 rfl))) (mvT hZ (hw _ (tk 64 rfl))) (notFace_of_selects (args := #[]) (mvT hZ (hw _ (tk 66 rfl)))) (mvT hZ (hw _ (tk 66 rfl))) (mvT hZ (hw _ (tk 65 rfl))) (by decide) (backOf (W := 0) (rm11x1 l Z a0 hw hv [] w_1 w_2 hS0 r0_f1 x_r1_0 r0_f1_f3 x_r0_f1_f4 k_r0_f1_f3 x_r0_f1_f3_n x_r0_f1_f3_F h0 n0 O0 g_r0_f1 g_r0_f1_f3 E_r0_f1 F_words_r0_f1 F_wordsInUse_r0_f1 V_r0_f1_f3 ne_r0_f1_r0_f1_f3 as0 as1 as4) hZ (hw _ (tk 67 rfl)) (hw _ (tk 11 rfl)) (by decide) (by decide)) q10222a q10222c (g := (mkF m 46 (lt25 r0 r1 r1 (2 : Int32) (0 : Int32) x_r1_0) [(.int x_r1_0), (.ref r0_f1)])) rfl (by rw [hml]; rfl) (Steps.refl _) (argsL := [(.int x_r1_0)]) (rest := []) (lenOf pd_6 rfl) rfl (by show 2 * 0 + _ ≤ _; exact Nat.le_of_eq rfl) (hb hby d10_46) (fun _ _ => ⟨rfl, e10221, (by decide : 0 + 0 ≤ _), (by decide : 0 + 0 ≤ _)⟩)
    dsimp only [Pt.U, Pt.locs, Pt.cells, Pt.slots] at X10222 l10222 y10222 z10222 st10222 hQ10222
    subst l10222 y10222 z10222
    obtain ⟨rv10222, N10222q, e10222⟩ := hQ10222
    subst rv10222
    have N10222 := Fr.app N10218 N10222q
    have pre10223 : Cm p e below E0 (T10222.setTop (mkF m 49 (lt25 r0 r1 r1 (2 : Int32) (0 : Int32) x_r1_0) [(.int (sp11x1 x_r1_0 x_r0_f1_f4 x_r0_f1_f3_F))])) := fun t kt => by
      refine pre10219 t ?_
      show Sp p e below T10218 (mkF m 33 (lt25 r0 r1 r1 (2 : Int32) (0 : Int32) x_r1_0) [(.int (sp11x1 x_r1_0 x_r0_f0_f4 x_r0_f0_f3_F))]) _
      refine XS.ifYes X10218.here hx rfl (pc0 := 33) (pc' := 40) rfl (hb hby d10_33) rfl ((if0 _ _).trans (teq hc10220).1) (by decide) (by decide) ?_
      show Sp p e below T10218 (mkF m 40 (lt25 r0 r1 r1 (2 : Int32) (0 : Int32) x_r1_0) []) _
      refine XS.aloadN X10218.here hx rfl (hb hby d10_40) rfl rfl ?_
      show Sp p e below T10218 (mkF m 41 (lt25 r0 r1 r1 (2 : Int32) (0 : Int32) x_r1_0) [(.ref r0)]) _
      refine st10221 _ ?_
      show Sp p e below T10221 (mkF m 44 (lt25 r0 r1 r1 (2 : Int32) (0 : Int32) x_r1_0) [(.ref r0_f1)]) _
      refine XS.iload X10221.here hx rfl (hb hby d10_44) rfl ?_
      show Sp p e below T10221 (mkF m 46 (lt25 r0 r1 r1 (2 : Int32) (0 : Int32) x_r1_0) [(.int x_r1_0), (.ref r0_f1)]) _
      refine st10222.trans ?_
      show Sp p e below T10222 (mkF m 49 (lt25 r0 r1 r1 (2 : Int32) (0 : Int32) x_r1_0) [(.int (sp11x1 x_r1_0 x_r0_f1_f4 x_r0_f1_f3_F))]) _
      exact kt
    by_cases hc10224 : (sp11x1 x_r1_0 x_r0_f1_f4 x_r0_f1_f3_F) = (0 : Int32)
    · obtain ⟨cl10225, Ar10225, qa10225, Sa10225, Ma10225, Ha10225, Ga10225⟩ := id V_r1
      have hin10225 : ¬ (((0 : Int32) + (1 : Int32)) < 0 ∨ cl10225.slots.size ≤ (((0 : Int32) + (1 : Int32))).toNatClampNeg) := by  exact inb_of Sa10225 ⟨by decide, by decide⟩
      have hat10225 : cl10225.slots[(((0 : Int32) + (1 : Int32))).toNatClampNeg]? = some (.int x_r1_1) := Has.at Ha10225 hin10225 (by rfl)
      obtain ⟨T10226, X10226, e10226, st10226⟩ := getF X10222 hx hZ hown (host := "") (Or.inl (hw _ (tk 33 rfl))) Via.refl e10222 F_denied_r0 (g := (mkF m 25 (lt25 r0 r1 r1 (2 : Int32) ((0 : Int32) + (1 : Int32)) x_r1_1) [(.ref r0)])) rfl rfl (hb hby d10_25)
      obtain ⟨cq10227, kq10227, q10227a, q10227b, q10227c⟩ := isOf hZ e10226 E_r0_f0
      obtain ⟨_, _, ⟨T10227, L10227, k10227, n10227⟩, -, X10227, ⟨Lc10227, hQ10227, l10227, y10227, z10227⟩, st10227⟩ := X10226.virtualBack hx (y := Y37) (z := Y37) hown (mvT hZ (hw _ (tk 63 rfl))) (mvT hZ (hw _ (tk 64 rfl))) (notFace_of_selects (args := #[]) (mvT hZ (hw _ (tk 66 rfl)))) (mvT hZ (hw _ (tk 66 rfl))) (mvT hZ (hw _ (tk 65 rfl))) (by decide) (backOf (W := 0) (rm11x1 l Z a0 hw hv [] w_1 w_2 hS0 r0_f0 x_r1_1 r0_f0_f3 x_r0_f0_f4 k_r0_f0_f3 x_r0_f0_f3_n x_r0_f0_f3_F h0 n0 O0 g_r0_f0 g_r0_f0_f3 E_r0_f0 F_words_r0_f0 F_wordsInUse_r0_f0 V_r0_f0_f3 ne_r0_f0_r0_f0_f3 as2 as3 as5) hZ (hw _ (tk 67 rfl)) (hw _ (tk 11 rfl)) (by decide) (by decide)) q10227a q10227c (g := (mkF m 30 (lt25 r0 r1 r1 (2 : Int32) ((0 : Int32) + (1 : Int32)) x_r1_1) [(.int x_r1_1), (.ref r0_f0)])) rfl (by rw [hml]; rfl) (Steps.refl _) (argsL := [(.int x_r1_1)]) (rest := []) (lenOf pd_6 rfl) rfl (by show 2 * 0 + _ ≤ _; exact Nat.le_of_eq rfl) (hb hby d10_30) (fun _ _ => ⟨rfl, e10226, (by decide : 0 + 0 ≤ _), (by decide : 0 + 0 ≤ _)⟩)
      dsimp only [Pt.U, Pt.locs, Pt.cells, Pt.slots] at X10227 l10227 y10227 z10227 st10227 hQ10227
      subst l10227 y10227 z10227
      obtain ⟨rv10227, N10227q, e10227⟩ := hQ10227
      subst rv10227
      have N10227 := Fr.app N10222 N10227q
      have pre10228 : Cm p e below E0 (T10227.setTop (mkF m 33 (lt25 r0 r1 r1 (2 : Int32) ((0 : Int32) + (1 : Int32)) x_r1_1) [(.int (sp11x1 x_r1_1 x_r0_f0_f4 x_r0_f0_f3_F))])) := fun t kt => by
        refine pre10223 t ?_
        show Sp p e below T10222 (mkF m 49 (lt25 r0 r1 r1 (2 : Int32) (0 : Int32) x_r1_0) [(.int (sp11x1 x_r1_0 x_r0_f1_f4 x_r0_f1_f3_F))]) _
        refine XS.ifYes X10222.here hx rfl (pc0 := 49) (pc' := 56) rfl (hb hby d10_49) rfl ((if0 _ _).trans (teq hc10224).1) (by decide) (by decide) ?_
        show Sp p e below T10222 (mkF m 56 (lt25 r0 r1 r1 (2 : Int32) (0 : Int32) x_r1_0) []) _
        refine XS.iinc X10222.here hx rfl (hb hby d10_56) rfl (l' := (lt25 r0 r1 r1 (2 : Int32) ((0 : Int32) + (1 : Int32)) x_r1_0)) rfl ?_
        show Sp p e below T10222 (mkF m 59 (lt25 r0 r1 r1 (2 : Int32) ((0 : Int32) + (1 : Int32)) x_r1_0) []) _
        refine XS.goto X10222.here hx rfl (pc0 := 59) (pc' := 11) rfl (hb hby d10_59) (by decide) (by decide) ?_
        show Sp p e below T10222 (mkF m 11 (lt25 r0 r1 r1 (2 : Int32) ((0 : Int32) + (1 : Int32)) x_r1_0) []) _
        refine XS.iload X10222.here hx rfl (hb hby d10_11) rfl ?_
        refine XS.iload X10222.here hx rfl (hb hby d10_13) rfl ?_
        show Sp p e below T10222 (mkF m 15 (lt25 r0 r1 r1 (2 : Int32) ((0 : Int32) + (1 : Int32)) x_r1_0) [(.int (2 : Int32)), (.int ((0 : Int32) + (1 : Int32)))]) _
        refine XS.icmpNo X10222.here hx rfl (hb hby d10_15) rfl (tlt (by decide : (((0 : Int32) + (1 : Int32)) < (2 : Int32)))).2.1 ?_
        show Sp p e below T10222 (mkF m 18 (lt25 r0 r1 r1 (2 : Int32) ((0 : Int32) + (1 : Int32)) x_r1_0) []) _
        refine XS.aloadN X10222.here hx rfl (hb hby d10_18) rfl rfl ?_
        refine XS.iload X10222.here hx rfl (hb hby d10_19) rfl ?_
        show Sp p e below T10222 (mkF m 21 (lt25 r0 r1 r1 (2 : Int32) ((0 : Int32) + (1 : Int32)) x_r1_0) [(.int ((0 : Int32) + (1 : Int32))), (.ref r1)]) _
        refine X10222.iaload hx (j := ((0 : Int32) + (1 : Int32))) (v := (.int x_r1_1)) (by rw [e10222]; exact Ar10225.1) (State.isArrayOf_alike hZ.alike Ar10225.2.1) Ar10225.2.2 hin10225 hat10225 (g := (mkF m 21 (lt25 r0 r1 r1 (2 : Int32) ((0 : Int32) + (1 : Int32)) x_r1_0) [(.int ((0 : Int32) + (1 : Int32))), (.ref r1)])) rfl rfl (hb hby d10_21) _ ?_
        show Sp p e below T10222 (mkF m 22 (lt25 r0 r1 r1 (2 : Int32) ((0 : Int32) + (1 : Int32)) x_r1_0) [(.int x_r1_1)]) _
        refine XS.istore X10222.here hx rfl (hb hby d10_22) rfl (l' := (lt25 r0 r1 r1 (2 : Int32) ((0 : Int32) + (1 : Int32)) x_r1_1)) rfl ?_
        refine XS.aloadN X10222.here hx rfl (hb hby d10_24) rfl rfl ?_
        show Sp p e below T10222 (mkF m 25 (lt25 r0 r1 r1 (2 : Int32) ((0 : Int32) + (1 : Int32)) x_r1_1) [(.ref r0)]) _
        refine st10226 _ ?_
        show Sp p e below T10226 (mkF m 28 (lt25 r0 r1 r1 (2 : Int32) ((0 : Int32) + (1 : Int32)) x_r1_1) [(.ref r0_f0)]) _
        refine XS.iload X10226.here hx rfl (hb hby d10_28) rfl ?_
        show Sp p e below T10226 (mkF m 30 (lt25 r0 r1 r1 (2 : Int32) ((0 : Int32) + (1 : Int32)) x_r1_1) [(.int x_r1_1), (.ref r0_f0)]) _
        refine st10227.trans ?_
        show Sp p e below T10227 (mkF m 33 (lt25 r0 r1 r1 (2 : Int32) ((0 : Int32) + (1 : Int32)) x_r1_1) [(.int (sp11x1 x_r1_1 x_r0_f0_f4 x_r0_f0_f3_F))]) _
        exact kt
      by_cases hc10229 : (sp11x1 x_r1_1 x_r0_f0_f4 x_r0_f0_f3_F) = (0 : Int32)
      · obtain ⟨T10230, X10230, e10230, st10230⟩ := getF X10227 hx hZ hown (host := "") (Or.inl (hw _ (tk 31 rfl))) Via.refl e10227 F_permitted_r0 (g := (mkF m 41 (lt25 r0 r1 r1 (2 : Int32) ((0 : Int32) + (1 : Int32)) x_r1_1) [(.ref r0)])) rfl rfl (hb hby d10_41)
        obtain ⟨cq10231, kq10231, q10231a, q10231b, q10231c⟩ := isOf hZ e10230 E_r0_f1
        obtain ⟨_, _, ⟨T10231, L10231, k10231, n10231⟩, -, X10231, ⟨Lc10231, hQ10231, l10231, y10231, z10231⟩, st10231⟩ := X10230.virtualBack hx (y := Y37) (z := Y37) hown (mvT hZ (hw _ (tk 63 rfl))) (mvT hZ (hw _ (tk 64 rfl))) (notFace_of_selects (args := #[]) (mvT hZ (hw _ (tk 66 rfl)))) (mvT hZ (hw _ (tk 66 rfl))) (mvT hZ (hw _ (tk 65 rfl))) (by decide) (backOf (W := 0) (rm11x1 l Z a0 hw hv [] w_1 w_2 hS0 r0_f1 x_r1_1 r0_f1_f3 x_r0_f1_f4 k_r0_f1_f3 x_r0_f1_f3_n x_r0_f1_f3_F h0 n0 O0 g_r0_f1 g_r0_f1_f3 E_r0_f1 F_words_r0_f1 F_wordsInUse_r0_f1 V_r0_f1_f3 ne_r0_f1_r0_f1_f3 as2 as3 as4) hZ (hw _ (tk 67 rfl)) (hw _ (tk 11 rfl)) (by decide) (by decide)) q10231a q10231c (g := (mkF m 46 (lt25 r0 r1 r1 (2 : Int32) ((0 : Int32) + (1 : Int32)) x_r1_1) [(.int x_r1_1), (.ref r0_f1)])) rfl (by rw [hml]; rfl) (Steps.refl _) (argsL := [(.int x_r1_1)]) (rest := []) (lenOf pd_6 rfl) rfl (by show 2 * 0 + _ ≤ _; exact Nat.le_of_eq rfl) (hb hby d10_46) (fun _ _ => ⟨rfl, e10230, (by decide : 0 + 0 ≤ _), (by decide : 0 + 0 ≤ _)⟩)
        dsimp only [Pt.U, Pt.locs, Pt.cells, Pt.slots] at X10231 l10231 y10231 z10231 st10231 hQ10231
        subst l10231 y10231 z10231
        obtain ⟨rv10231, N10231q, e10231⟩ := hQ10231
        subst rv10231
        have N10231 := Fr.app N10227 N10231q
        have pre10232 : Cm p e below E0 (T10231.setTop (mkF m 49 (lt25 r0 r1 r1 (2 : Int32) ((0 : Int32) + (1 : Int32)) x_r1_1) [(.int (sp11x1 x_r1_1 x_r0_f1_f4 x_r0_f1_f3_F))])) := fun t kt => by
          refine pre10228 t ?_
          show Sp p e below T10227 (mkF m 33 (lt25 r0 r1 r1 (2 : Int32) ((0 : Int32) + (1 : Int32)) x_r1_1) [(.int (sp11x1 x_r1_1 x_r0_f0_f4 x_r0_f0_f3_F))]) _
          refine XS.ifYes X10227.here hx rfl (pc0 := 33) (pc' := 40) rfl (hb hby d10_33) rfl ((if0 _ _).trans (teq hc10229).1) (by decide) (by decide) ?_
          show Sp p e below T10227 (mkF m 40 (lt25 r0 r1 r1 (2 : Int32) ((0 : Int32) + (1 : Int32)) x_r1_1) []) _
          refine XS.aloadN X10227.here hx rfl (hb hby d10_40) rfl rfl ?_
          show Sp p e below T10227 (mkF m 41 (lt25 r0 r1 r1 (2 : Int32) ((0 : Int32) + (1 : Int32)) x_r1_1) [(.ref r0)]) _
          refine st10230 _ ?_
          show Sp p e below T10230 (mkF m 44 (lt25 r0 r1 r1 (2 : Int32) ((0 : Int32) + (1 : Int32)) x_r1_1) [(.ref r0_f1)]) _
          refine XS.iload X10230.here hx rfl (hb hby d10_44) rfl ?_
          show Sp p e below T10230 (mkF m 46 (lt25 r0 r1 r1 (2 : Int32) ((0 : Int32) + (1 : Int32)) x_r1_1) [(.int x_r1_1), (.ref r0_f1)]) _
          refine st10231.trans ?_
          show Sp p e below T10231 (mkF m 49 (lt25 r0 r1 r1 (2 : Int32) ((0 : Int32) + (1 : Int32)) x_r1_1) [(.int (sp11x1 x_r1_1 x_r0_f1_f4 x_r0_f1_f3_F))]) _
          exact kt
        by_cases hc10233 : (sp11x1 x_r1_1 x_r0_f1_f4 x_r0_f1_f3_F) = (0 : Int32)
        · obtain ⟨fs, hr, hrun, hended, hW, hsame⟩ := X10231.leave (v := some .null) (fun h => by rw [Bd.returns] at h; cases h)
          refine ⟨_, _, pre10232 _ ?_, hrun, hended, _, _, rfl, ?_, ⟨_, rfl⟩, hW, hsame.mono (by decide) (by decide)⟩
          · show Sp p e below T10231 (mkF m 49 (lt25 r0 r1 r1 (2 : Int32) ((0 : Int32) + (1 : Int32)) x_r1_1) [(.int (sp11x1 x_r1_1 x_r0_f1_f4 x_r0_f1_f3_F))]) _
            refine XS.ifYes X10231.here hx rfl (pc0 := 49) (pc' := 56) rfl (hb hby d10_49) rfl ((if0 _ _).trans (teq hc10233).1) (by decide) (by decide) ?_
            show Sp p e below T10231 (mkF m 56 (lt25 r0 r1 r1 (2 : Int32) ((0 : Int32) + (1 : Int32)) x_r1_1) []) _
            refine XS.iinc X10231.here hx rfl (hb hby d10_56) rfl (l' := (lt25 r0 r1 r1 (2 : Int32) (((0 : Int32) + (1 : Int32)) + (1 : Int32)) x_r1_1)) rfl ?_
            show Sp p e below T10231 (mkF m 59 (lt25 r0 r1 r1 (2 : Int32) (((0 : Int32) + (1 : Int32)) + (1 : Int32)) x_r1_1) []) _
            refine XS.goto X10231.here hx rfl (pc0 := 59) (pc' := 11) rfl (hb hby d10_59) (by decide) (by decide) ?_
            show Sp p e below T10231 (mkF m 11 (lt25 r0 r1 r1 (2 : Int32) (((0 : Int32) + (1 : Int32)) + (1 : Int32)) x_r1_1) []) _
            refine XS.iload X10231.here hx rfl (hb hby d10_11) rfl ?_
            refine XS.iload X10231.here hx rfl (hb hby d10_13) rfl ?_
            show Sp p e below T10231 (mkF m 15 (lt25 r0 r1 r1 (2 : Int32) (((0 : Int32) + (1 : Int32)) + (1 : Int32)) x_r1_1) [(.int (2 : Int32)), (.int (((0 : Int32) + (1 : Int32)) + (1 : Int32)))]) _
            refine XS.icmpYes X10231.here hx rfl (pc0 := 15) (pc' := 62) rfl (hb hby d10_15) rfl (flt (by decide : ¬ ((((0 : Int32) + (1 : Int32)) + (1 : Int32)) < (2 : Int32)))).2.1 (by decide) (by decide) ?_
            show Sp p e below T10231 (mkF m 62 (lt25 r0 r1 r1 (2 : Int32) (((0 : Int32) + (1 : Int32)) + (1 : Int32)) x_r1_1) []) _
            refine XS.aloadN X10231.here hx rfl (hb hby d10_62) rfl rfl ?_
            show Sp p e below T10231 (mkF m 63 (lt25 r0 r1 r1 (2 : Int32) (((0 : Int32) + (1 : Int32)) + (1 : Int32)) x_r1_1) [.null]) _
            jvm_step X10231.here [X10231.here.top, hx, (hb hby d10_63), X10231.method', Bd.returns, Value.isRef, FieldType.isReference]
            first | (intro acts; rw [hr _ acts rfl rfl rfl]) | rw [hr _ _ rfl rfl rfl]
            exact Steps.refl _
          · show Q10x3 Z w_1 w_2 r0 r1 r0_f0 r0_f0_f3 r0_f1 r0_f1_f3 x_r0_f0_f4 k_r0_f0_f3 x_r0_f0_f3_n x_r0_f0_f3_F x_r0_f1_f4 k_r0_f1_f3 x_r0_f1_f3_n x_r0_f1_f3_F k_r1 x_r1_0 x_r1_1 h0 n0 _ T10231.heap _
            rw [e10231]
            exact ⟨by unfold sp10x3; rw [if_pos hc10220, if_pos hc10224, if_pos hc10229, if_pos hc10233], N10231, rfl⟩
        · obtain ⟨T10234, X10234, e10234, st10234⟩ := getS2 X10231 hx hZ hown (host := "") (Or.inl (hw _ (tk 92 rfl))) Via.refl e10231 (S_2.ext O0.2) (g := (mkF m 52 (lt25 r0 r1 r1 (2 : Int32) ((0 : Int32) + (1 : Int32)) x_r1_1) [])) rfl (hb hby d10_52)
          obtain ⟨fs, hr, hrun, hended, hW, hsame⟩ := X10234.leave (v := some (.ref w_2)) (fun h => by rw [Bd.returns] at h; cases h)
          refine ⟨_, _, pre10232 _ ?_, hrun, hended, _, _, rfl, ?_, ⟨_, rfl⟩, hW, hsame.mono (by decide) (by decide)⟩
          · show Sp p e below T10231 (mkF m 49 (lt25 r0 r1 r1 (2 : Int32) ((0 : Int32) + (1 : Int32)) x_r1_1) [(.int (sp11x1 x_r1_1 x_r0_f1_f4 x_r0_f1_f3_F))]) _
            refine XS.ifNo X10231.here hx rfl (hb hby d10_49) rfl ((if0 _ _).trans (feq hc10233).1) ?_
            show Sp p e below T10231 (mkF m 52 (lt25 r0 r1 r1 (2 : Int32) ((0 : Int32) + (1 : Int32)) x_r1_1) []) _
            refine st10234 _ ?_
            show Sp p e below T10234 (mkF m 55 (lt25 r0 r1 r1 (2 : Int32) ((0 : Int32) + (1 : Int32)) x_r1_1) [(.ref w_2)]) _
            refine XS.astoreN X10234.here hx rfl (hb hby d10_55) rfl rfl (l' := (lt26 r0 r1 w_2 r1 (2 : Int32) ((0 : Int32) + (1 : Int32)) x_r1_1)) rfl ?_
            refine XS.iinc X10234.here hx rfl (hb hby d10_56) rfl (l' := (lt26 r0 r1 w_2 r1 (2 : Int32) (((0 : Int32) + (1 : Int32)) + (1 : Int32)) x_r1_1)) rfl ?_
            show Sp p e below T10234 (mkF m 59 (lt26 r0 r1 w_2 r1 (2 : Int32) (((0 : Int32) + (1 : Int32)) + (1 : Int32)) x_r1_1) []) _
            refine XS.goto X10234.here hx rfl (pc0 := 59) (pc' := 11) rfl (hb hby d10_59) (by decide) (by decide) ?_
            show Sp p e below T10234 (mkF m 11 (lt26 r0 r1 w_2 r1 (2 : Int32) (((0 : Int32) + (1 : Int32)) + (1 : Int32)) x_r1_1) []) _
            refine XS.iload X10234.here hx rfl (hb hby d10_11) rfl ?_
            refine XS.iload X10234.here hx rfl (hb hby d10_13) rfl ?_
            show Sp p e below T10234 (mkF m 15 (lt26 r0 r1 w_2 r1 (2 : Int32) (((0 : Int32) + (1 : Int32)) + (1 : Int32)) x_r1_1) [(.int (2 : Int32)), (.int (((0 : Int32) + (1 : Int32)) + (1 : Int32)))]) _
            refine XS.icmpYes X10234.here hx rfl (pc0 := 15) (pc' := 62) rfl (hb hby d10_15) rfl (flt (by decide : ¬ ((((0 : Int32) + (1 : Int32)) + (1 : Int32)) < (2 : Int32)))).2.1 (by decide) (by decide) ?_
            show Sp p e below T10234 (mkF m 62 (lt26 r0 r1 w_2 r1 (2 : Int32) (((0 : Int32) + (1 : Int32)) + (1 : Int32)) x_r1_1) []) _
            refine XS.aloadN X10234.here hx rfl (hb hby d10_62) rfl rfl ?_
            show Sp p e below T10234 (mkF m 63 (lt26 r0 r1 w_2 r1 (2 : Int32) (((0 : Int32) + (1 : Int32)) + (1 : Int32)) x_r1_1) [(.ref w_2)]) _
            jvm_step X10234.here [X10234.here.top, hx, (hb hby d10_63), X10234.method', Bd.returns, Value.isRef, FieldType.isReference]
            first | (intro acts; rw [hr _ acts rfl rfl rfl]) | rw [hr _ _ rfl rfl rfl]
            exact Steps.refl _
          · show Q10x3 Z w_1 w_2 r0 r1 r0_f0 r0_f0_f3 r0_f1 r0_f1_f3 x_r0_f0_f4 k_r0_f0_f3 x_r0_f0_f3_n x_r0_f0_f3_F x_r0_f1_f4 k_r0_f1_f3 x_r0_f1_f3_n x_r0_f1_f3_F k_r1 x_r1_0 x_r1_1 h0 n0 _ T10234.heap _
            rw [e10234]
            exact ⟨by unfold sp10x3; rw [if_pos hc10220, if_pos hc10224, if_pos hc10229, if_neg hc10233], N10231, rfl⟩
      · obtain ⟨T10235, X10235, e10235, st10235⟩ := getS2 X10227 hx hZ hown (host := "") (Or.inl (hw _ (tk 88 rfl))) Via.refl e10227 (S_1.ext O0.2) (g := (mkF m 36 (lt25 r0 r1 r1 (2 : Int32) ((0 : Int32) + (1 : Int32)) x_r1_1) [])) rfl (hb hby d10_36)
        obtain ⟨fs, hr, hrun, hended, hW, hsame⟩ := X10235.leave (v := some (.ref w_1)) (fun h => by rw [Bd.returns] at h; cases h)
        refine ⟨_, _, pre10228 _ ?_, hrun, hended, _, _, rfl, ?_, ⟨_, rfl⟩, hW, hsame.mono (by decide) (by decide)⟩
        · show Sp p e below T10227 (mkF m 33 (lt25 r0 r1 r1 (2 : Int32) ((0 : Int32) + (1 : Int32)) x_r1_1) [(.int (sp11x1 x_r1_1 x_r0_f0_f4 x_r0_f0_f3_F))]) _
          refine XS.ifNo X10227.here hx rfl (hb hby d10_33) rfl ((if0 _ _).trans (feq hc10229).1) ?_
          show Sp p e below T10227 (mkF m 36 (lt25 r0 r1 r1 (2 : Int32) ((0 : Int32) + (1 : Int32)) x_r1_1) []) _
          refine st10235 _ ?_
          show Sp p e below T10235 (mkF m 39 (lt25 r0 r1 r1 (2 : Int32) ((0 : Int32) + (1 : Int32)) x_r1_1) [(.ref w_1)]) _
          jvm_step X10235.here [X10235.here.top, hx, (hb hby d10_39), X10235.method', Bd.returns, Value.isRef, FieldType.isReference]
          first | (intro acts; rw [hr _ acts rfl rfl rfl]) | rw [hr _ _ rfl rfl rfl]
          exact Steps.refl _
        · show Q10x3 Z w_1 w_2 r0 r1 r0_f0 r0_f0_f3 r0_f1 r0_f1_f3 x_r0_f0_f4 k_r0_f0_f3 x_r0_f0_f3_n x_r0_f0_f3_F x_r0_f1_f4 k_r0_f1_f3 x_r0_f1_f3_n x_r0_f1_f3_F k_r1 x_r1_0 x_r1_1 h0 n0 _ T10235.heap _
          rw [e10235]
          exact ⟨by unfold sp10x3; rw [if_pos hc10220, if_pos hc10224, if_neg hc10229], N10227, rfl⟩
    · obtain ⟨T10236, X10236, e10236, st10236⟩ := getS2 X10222 hx hZ hown (host := "") (Or.inl (hw _ (tk 92 rfl))) Via.refl e10222 (S_2.ext O0.2) (g := (mkF m 52 (lt25 r0 r1 r1 (2 : Int32) (0 : Int32) x_r1_0) [])) rfl (hb hby d10_52)
      obtain ⟨cl10237, Ar10237, qa10237, Sa10237, Ma10237, Ha10237, Ga10237⟩ := id V_r1
      have hin10237 : ¬ (((0 : Int32) + (1 : Int32)) < 0 ∨ cl10237.slots.size ≤ (((0 : Int32) + (1 : Int32))).toNatClampNeg) := by  exact inb_of Sa10237 ⟨by decide, by decide⟩
      have hat10237 : cl10237.slots[(((0 : Int32) + (1 : Int32))).toNatClampNeg]? = some (.int x_r1_1) := Has.at Ha10237 hin10237 (by rfl)
      obtain ⟨T10238, X10238, e10238, st10238⟩ := getF X10236 hx hZ hown (host := "") (Or.inl (hw _ (tk 33 rfl))) Via.refl e10236 F_denied_r0 (g := (mkF m 25 (lt26 r0 r1 w_2 r1 (2 : Int32) ((0 : Int32) + (1 : Int32)) x_r1_1) [(.ref r0)])) rfl rfl (hb hby d10_25)
      obtain ⟨cq10239, kq10239, q10239a, q10239b, q10239c⟩ := isOf hZ e10238 E_r0_f0
      obtain ⟨_, _, ⟨T10239, L10239, k10239, n10239⟩, -, X10239, ⟨Lc10239, hQ10239, l10239, y10239, z10239⟩, st10239⟩ := X10238.virtualBack hx (y := Y37) (z := Y37) hown (mvT hZ (hw _ (tk 63 rfl))) (mvT hZ (hw _ (tk 64 rfl))) (notFace_of_selects (args := #[]) (mvT hZ (hw _ (tk 66 rfl)))) (mvT hZ (hw _ (tk 66 rfl))) (mvT hZ (hw _ (tk 65 rfl))) (by decide) (backOf (W := 0) (rm11x1 l Z a0 hw hv [] w_1 w_2 hS0 r0_f0 x_r1_1 r0_f0_f3 x_r0_f0_f4 k_r0_f0_f3 x_r0_f0_f3_n x_r0_f0_f3_F h0 n0 O0 g_r0_f0 g_r0_f0_f3 E_r0_f0 F_words_r0_f0 F_wordsInUse_r0_f0 V_r0_f0_f3 ne_r0_f0_r0_f0_f3 as2 as3 as5) hZ (hw _ (tk 67 rfl)) (hw _ (tk 11 rfl)) (by decide) (by decide)) q10239a q10239c (g := (mkF m 30 (lt26 r0 r1 w_2 r1 (2 : Int32) ((0 : Int32) + (1 : Int32)) x_r1_1) [(.int x_r1_1), (.ref r0_f0)])) rfl (by rw [hml]; rfl) (Steps.refl _) (argsL := [(.int x_r1_1)]) (rest := []) (lenOf pd_6 rfl) rfl (by show 2 * 0 + _ ≤ _; exact Nat.le_of_eq rfl) (hb hby d10_30) (fun _ _ => ⟨rfl, e10238, (by decide : 0 + 0 ≤ _), (by decide : 0 + 0 ≤ _)⟩)
      dsimp only [Pt.U, Pt.locs, Pt.cells, Pt.slots] at X10239 l10239 y10239 z10239 st10239 hQ10239
      subst l10239 y10239 z10239
      obtain ⟨rv10239, N10239q, e10239⟩ := hQ10239
      subst rv10239
      have N10239 := Fr.app N10222 N10239q
      have pre10240 : Cm p e below E0 (T10239.setTop (mkF m 33 (lt26 r0 r1 w_2 r1 (2 : Int32) ((0 : Int32) + (1 : Int32)) x_r1_1) [(.int (sp11x1 x_r1_1 x_r0_f0_f4 x_r0_f0_f3_F))])) := fun t kt => by
        refine pre10223 t ?_
        show Sp p e below T10222 (mkF m 49 (lt25 r0 r1 r1 (2 : Int32) (0 : Int32) x_r1_0) [(.int (sp11x1 x_r1_0 x_r0_f1_f4 x_r0_f1_f3_F))]) _
        refine XS.ifNo X10222.here hx rfl (hb hby d10_49) rfl ((if0 _ _).trans (feq hc10224).1) ?_
        show Sp p e below T10222 (mkF m 52 (lt25 r0 r1 r1 (2 : Int32) (0 : Int32) x_r1_0) []) _
        refine st10236 _ ?_
        show Sp p e below T10236 (mkF m 55 (lt25 r0 r1 r1 (2 : Int32) (0 : Int32) x_r1_0) [(.ref w_2)]) _
        refine XS.astoreN X10236.here hx rfl (hb hby d10_55) rfl rfl (l' := (lt26 r0 r1 w_2 r1 (2 : Int32) (0 : Int32) x_r1_0)) rfl ?_
        refine XS.iinc X10236.here hx rfl (hb hby d10_56) rfl (l' := (lt26 r0 r1 w_2 r1 (2 : Int32) ((0 : Int32) + (1 : Int32)) x_r1_0)) rfl ?_
        show Sp p e below T10236 (mkF m 59 (lt26 r0 r1 w_2 r1 (2 : Int32) ((0 : Int32) + (1 : Int32)) x_r1_0) []) _
        refine XS.goto X10236.here hx rfl (pc0 := 59) (pc' := 11) rfl (hb hby d10_59) (by decide) (by decide) ?_
        show Sp p e below T10236 (mkF m 11 (lt26 r0 r1 w_2 r1 (2 : Int32) ((0 : Int32) + (1 : Int32)) x_r1_0) []) _
        refine XS.iload X10236.here hx rfl (hb hby d10_11) rfl ?_
        refine XS.iload X10236.here hx rfl (hb hby d10_13) rfl ?_
        show Sp p e below T10236 (mkF m 15 (lt26 r0 r1 w_2 r1 (2 : Int32) ((0 : Int32) + (1 : Int32)) x_r1_0) [(.int (2 : Int32)), (.int ((0 : Int32) + (1 : Int32)))]) _
        refine XS.icmpNo X10236.here hx rfl (hb hby d10_15) rfl (tlt (by decide : (((0 : Int32) + (1 : Int32)) < (2 : Int32)))).2.1 ?_
        show Sp p e below T10236 (mkF m 18 (lt26 r0 r1 w_2 r1 (2 : Int32) ((0 : Int32) + (1 : Int32)) x_r1_0) []) _
        refine XS.aloadN X10236.here hx rfl (hb hby d10_18) rfl rfl ?_
        refine XS.iload X10236.here hx rfl (hb hby d10_19) rfl ?_
        show Sp p e below T10236 (mkF m 21 (lt26 r0 r1 w_2 r1 (2 : Int32) ((0 : Int32) + (1 : Int32)) x_r1_0) [(.int ((0 : Int32) + (1 : Int32))), (.ref r1)]) _
        refine X10236.iaload hx (j := ((0 : Int32) + (1 : Int32))) (v := (.int x_r1_1)) (by rw [e10236]; exact Ar10237.1) (State.isArrayOf_alike hZ.alike Ar10237.2.1) Ar10237.2.2 hin10237 hat10237 (g := (mkF m 21 (lt26 r0 r1 w_2 r1 (2 : Int32) ((0 : Int32) + (1 : Int32)) x_r1_0) [(.int ((0 : Int32) + (1 : Int32))), (.ref r1)])) rfl rfl (hb hby d10_21) _ ?_
        show Sp p e below T10236 (mkF m 22 (lt26 r0 r1 w_2 r1 (2 : Int32) ((0 : Int32) + (1 : Int32)) x_r1_0) [(.int x_r1_1)]) _
        refine XS.istore X10236.here hx rfl (hb hby d10_22) rfl (l' := (lt26 r0 r1 w_2 r1 (2 : Int32) ((0 : Int32) + (1 : Int32)) x_r1_1)) rfl ?_
        refine XS.aloadN X10236.here hx rfl (hb hby d10_24) rfl rfl ?_
        show Sp p e below T10236 (mkF m 25 (lt26 r0 r1 w_2 r1 (2 : Int32) ((0 : Int32) + (1 : Int32)) x_r1_1) [(.ref r0)]) _
        refine st10238 _ ?_
        show Sp p e below T10238 (mkF m 28 (lt26 r0 r1 w_2 r1 (2 : Int32) ((0 : Int32) + (1 : Int32)) x_r1_1) [(.ref r0_f0)]) _
        refine XS.iload X10238.here hx rfl (hb hby d10_28) rfl ?_
        show Sp p e below T10238 (mkF m 30 (lt26 r0 r1 w_2 r1 (2 : Int32) ((0 : Int32) + (1 : Int32)) x_r1_1) [(.int x_r1_1), (.ref r0_f0)]) _
        refine st10239.trans ?_
        show Sp p e below T10239 (mkF m 33 (lt26 r0 r1 w_2 r1 (2 : Int32) ((0 : Int32) + (1 : Int32)) x_r1_1) [(.int (sp11x1 x_r1_1 x_r0_f0_f4 x_r0_f0_f3_F))]) _
        exact kt
      by_cases hc10241 : (sp11x1 x_r1_1 x_r0_f0_f4 x_r0_f0_f3_F) = (0 : Int32)
      · obtain ⟨T10242, X10242, e10242, st10242⟩ := getF X10239 hx hZ hown (host := "") (Or.inl (hw _ (tk 31 rfl))) Via.refl e10239 F_permitted_r0 (g := (mkF m 41 (lt26 r0 r1 w_2 r1 (2 : Int32) ((0 : Int32) + (1 : Int32)) x_r1_1) [(.ref r0)])) rfl rfl (hb hby d10_41)
        obtain ⟨cq10243, kq10243, q10243a, q10243b, q10243c⟩ := isOf hZ e10242 E_r0_f1
        obtain ⟨_, _, ⟨T10243, L10243, k10243, n10243⟩, -, X10243, ⟨Lc10243, hQ10243, l10243, y10243, z10243⟩, st10243⟩ := X10242.virtualBack hx (y := Y37) (z := Y37) hown (mvT hZ (hw _ (tk 63 rfl))) (mvT hZ (hw _ (tk 64 rfl))) (notFace_of_selects (args := #[]) (mvT hZ (hw _ (tk 66 rfl)))) (mvT hZ (hw _ (tk 66 rfl))) (mvT hZ (hw _ (tk 65 rfl))) (by decide) (backOf (W := 0) (rm11x1 l Z a0 hw hv [] w_1 w_2 hS0 r0_f1 x_r1_1 r0_f1_f3 x_r0_f1_f4 k_r0_f1_f3 x_r0_f1_f3_n x_r0_f1_f3_F h0 n0 O0 g_r0_f1 g_r0_f1_f3 E_r0_f1 F_words_r0_f1 F_wordsInUse_r0_f1 V_r0_f1_f3 ne_r0_f1_r0_f1_f3 as2 as3 as4) hZ (hw _ (tk 67 rfl)) (hw _ (tk 11 rfl)) (by decide) (by decide)) q10243a q10243c (g := (mkF m 46 (lt26 r0 r1 w_2 r1 (2 : Int32) ((0 : Int32) + (1 : Int32)) x_r1_1) [(.int x_r1_1), (.ref r0_f1)])) rfl (by rw [hml]; rfl) (Steps.refl _) (argsL := [(.int x_r1_1)]) (rest := []) (lenOf pd_6 rfl) rfl (by show 2 * 0 + _ ≤ _; exact Nat.le_of_eq rfl) (hb hby d10_46) (fun _ _ => ⟨rfl, e10242, (by decide : 0 + 0 ≤ _), (by decide : 0 + 0 ≤ _)⟩)
        dsimp only [Pt.U, Pt.locs, Pt.cells, Pt.slots] at X10243 l10243 y10243 z10243 st10243 hQ10243
        subst l10243 y10243 z10243
        obtain ⟨rv10243, N10243q, e10243⟩ := hQ10243
        subst rv10243
        have N10243 := Fr.app N10239 N10243q
        have pre10244 : Cm p e below E0 (T10243.setTop (mkF m 49 (lt26 r0 r1 w_2 r1 (2 : Int32) ((0 : Int32) + (1 : Int32)) x_r1_1) [(.int (sp11x1 x_r1_1 x_r0_f1_f4 x_r0_f1_f3_F))])) := fun t kt => by
          refine pre10240 t ?_
          show Sp p e below T10239 (mkF m 33 (lt26 r0 r1 w_2 r1 (2 : Int32) ((0 : Int32) + (1 : Int32)) x_r1_1) [(.int (sp11x1 x_r1_1 x_r0_f0_f4 x_r0_f0_f3_F))]) _
          refine XS.ifYes X10239.here hx rfl (pc0 := 33) (pc' := 40) rfl (hb hby d10_33) rfl ((if0 _ _).trans (teq hc10241).1) (by decide) (by decide) ?_
          show Sp p e below T10239 (mkF m 40 (lt26 r0 r1 w_2 r1 (2 : Int32) ((0 : Int32) + (1 : Int32)) x_r1_1) []) _
          refine XS.aloadN X10239.here hx rfl (hb hby d10_40) rfl rfl ?_
          show Sp p e below T10239 (mkF m 41 (lt26 r0 r1 w_2 r1 (2 : Int32) ((0 : Int32) + (1 : Int32)) x_r1_1) [(.ref r0)]) _
          refine st10242 _ ?_
          show Sp p e below T10242 (mkF m 44 (lt26 r0 r1 w_2 r1 (2 : Int32) ((0 : Int32) + (1 : Int32)) x_r1_1) [(.ref r0_f1)]) _
          refine XS.iload X10242.here hx rfl (hb hby d10_44) rfl ?_
          show Sp p e below T10242 (mkF m 46 (lt26 r0 r1 w_2 r1 (2 : Int32) ((0 : Int32) + (1 : Int32)) x_r1_1) [(.int x_r1_1), (.ref r0_f1)]) _
          refine st10243.trans ?_
          show Sp p e below T10243 (mkF m 49 (lt26 r0 r1 w_2 r1 (2 : Int32) ((0 : Int32) + (1 : Int32)) x_r1_1) [(.int (sp11x1 x_r1_1 x_r0_f1_f4 x_r0_f1_f3_F))]) _
          exact kt
        by_cases hc10245 : (sp11x1 x_r1_1 x_r0_f1_f4 x_r0_f1_f3_F) = (0 : Int32)
        · obtain ⟨fs, hr, hrun, hended, hW, hsame⟩ := X10243.leave (v := some (.ref w_2)) (fun h => by rw [Bd.returns] at h; cases h)
          refine ⟨_, _, pre10244 _ ?_, hrun, hended, _, _, rfl, ?_, ⟨_, rfl⟩, hW, hsame.mono (by decide) (by decide)⟩
          · show Sp p e below T10243 (mkF m 49 (lt26 r0 r1 w_2 r1 (2 : Int32) ((0 : Int32) + (1 : Int32)) x_r1_1) [(.int (sp11x1 x_r1_1 x_r0_f1_f4 x_r0_f1_f3_F))]) _
            refine XS.ifYes X10243.here hx rfl (pc0 := 49) (pc' := 56) rfl (hb hby d10_49) rfl ((if0 _ _).trans (teq hc10245).1) (by decide) (by decide) ?_
            show Sp p e below T10243 (mkF m 56 (lt26 r0 r1 w_2 r1 (2 : Int32) ((0 : Int32) + (1 : Int32)) x_r1_1) []) _
            refine XS.iinc X10243.here hx rfl (hb hby d10_56) rfl (l' := (lt26 r0 r1 w_2 r1 (2 : Int32) (((0 : Int32) + (1 : Int32)) + (1 : Int32)) x_r1_1)) rfl ?_
            show Sp p e below T10243 (mkF m 59 (lt26 r0 r1 w_2 r1 (2 : Int32) (((0 : Int32) + (1 : Int32)) + (1 : Int32)) x_r1_1) []) _
            refine XS.goto X10243.here hx rfl (pc0 := 59) (pc' := 11) rfl (hb hby d10_59) (by decide) (by decide) ?_
            show Sp p e below T10243 (mkF m 11 (lt26 r0 r1 w_2 r1 (2 : Int32) (((0 : Int32) + (1 : Int32)) + (1 : Int32)) x_r1_1) []) _
            refine XS.iload X10243.here hx rfl (hb hby d10_11) rfl ?_
            refine XS.iload X10243.here hx rfl (hb hby d10_13) rfl ?_
            show Sp p e below T10243 (mkF m 15 (lt26 r0 r1 w_2 r1 (2 : Int32) (((0 : Int32) + (1 : Int32)) + (1 : Int32)) x_r1_1) [(.int (2 : Int32)), (.int (((0 : Int32) + (1 : Int32)) + (1 : Int32)))]) _
            refine XS.icmpYes X10243.here hx rfl (pc0 := 15) (pc' := 62) rfl (hb hby d10_15) rfl (flt (by decide : ¬ ((((0 : Int32) + (1 : Int32)) + (1 : Int32)) < (2 : Int32)))).2.1 (by decide) (by decide) ?_
            show Sp p e below T10243 (mkF m 62 (lt26 r0 r1 w_2 r1 (2 : Int32) (((0 : Int32) + (1 : Int32)) + (1 : Int32)) x_r1_1) []) _
            refine XS.aloadN X10243.here hx rfl (hb hby d10_62) rfl rfl ?_
            show Sp p e below T10243 (mkF m 63 (lt26 r0 r1 w_2 r1 (2 : Int32) (((0 : Int32) + (1 : Int32)) + (1 : Int32)) x_r1_1) [(.ref w_2)]) _
            jvm_step X10243.here [X10243.here.top, hx, (hb hby d10_63), X10243.method', Bd.returns, Value.isRef, FieldType.isReference]
            first | (intro acts; rw [hr _ acts rfl rfl rfl]) | rw [hr _ _ rfl rfl rfl]
            exact Steps.refl _
          · show Q10x3 Z w_1 w_2 r0 r1 r0_f0 r0_f0_f3 r0_f1 r0_f1_f3 x_r0_f0_f4 k_r0_f0_f3 x_r0_f0_f3_n x_r0_f0_f3_F x_r0_f1_f4 k_r0_f1_f3 x_r0_f1_f3_n x_r0_f1_f3_F k_r1 x_r1_0 x_r1_1 h0 n0 _ T10243.heap _
            rw [e10243]
            exact ⟨by unfold sp10x3; rw [if_pos hc10220, if_neg hc10224, if_pos hc10241, if_pos hc10245], N10243, rfl⟩
        · obtain ⟨T10246, X10246, e10246, st10246⟩ := getS2 X10243 hx hZ hown (host := "") (Or.inl (hw _ (tk 92 rfl))) Via.refl e10243 (S_2.ext O0.2) (g := (mkF m 52 (lt26 r0 r1 w_2 r1 (2 : Int32) ((0 : Int32) + (1 : Int32)) x_r1_1) [])) rfl (hb hby d10_52)
          obtain ⟨fs, hr, hrun, hended, hW, hsame⟩ := X10246.leave (v := some (.ref w_2)) (fun h => by rw [Bd.returns] at h; cases h)
          refine ⟨_, _, pre10244 _ ?_, hrun, hended, _, _, rfl, ?_, ⟨_, rfl⟩, hW, hsame.mono (by decide) (by decide)⟩
          · show Sp p e below T10243 (mkF m 49 (lt26 r0 r1 w_2 r1 (2 : Int32) ((0 : Int32) + (1 : Int32)) x_r1_1) [(.int (sp11x1 x_r1_1 x_r0_f1_f4 x_r0_f1_f3_F))]) _
            refine XS.ifNo X10243.here hx rfl (hb hby d10_49) rfl ((if0 _ _).trans (feq hc10245).1) ?_
            show Sp p e below T10243 (mkF m 52 (lt26 r0 r1 w_2 r1 (2 : Int32) ((0 : Int32) + (1 : Int32)) x_r1_1) []) _
            refine st10246 _ ?_
            show Sp p e below T10246 (mkF m 55 (lt26 r0 r1 w_2 r1 (2 : Int32) ((0 : Int32) + (1 : Int32)) x_r1_1) [(.ref w_2)]) _
            refine XS.astoreN X10246.here hx rfl (hb hby d10_55) rfl rfl (l' := (lt26 r0 r1 w_2 r1 (2 : Int32) ((0 : Int32) + (1 : Int32)) x_r1_1)) rfl ?_
            refine XS.iinc X10246.here hx rfl (hb hby d10_56) rfl (l' := (lt26 r0 r1 w_2 r1 (2 : Int32) (((0 : Int32) + (1 : Int32)) + (1 : Int32)) x_r1_1)) rfl ?_
            show Sp p e below T10246 (mkF m 59 (lt26 r0 r1 w_2 r1 (2 : Int32) (((0 : Int32) + (1 : Int32)) + (1 : Int32)) x_r1_1) []) _
            refine XS.goto X10246.here hx rfl (pc0 := 59) (pc' := 11) rfl (hb hby d10_59) (by decide) (by decide) ?_
            show Sp p e below T10246 (mkF m 11 (lt26 r0 r1 w_2 r1 (2 : Int32) (((0 : Int32) + (1 : Int32)) + (1 : Int32)) x_r1_1) []) _
            refine XS.iload X10246.here hx rfl (hb hby d10_11) rfl ?_
            refine XS.iload X10246.here hx rfl (hb hby d10_13) rfl ?_
            show Sp p e below T10246 (mkF m 15 (lt26 r0 r1 w_2 r1 (2 : Int32) (((0 : Int32) + (1 : Int32)) + (1 : Int32)) x_r1_1) [(.int (2 : Int32)), (.int (((0 : Int32) + (1 : Int32)) + (1 : Int32)))]) _
            refine XS.icmpYes X10246.here hx rfl (pc0 := 15) (pc' := 62) rfl (hb hby d10_15) rfl (flt (by decide : ¬ ((((0 : Int32) + (1 : Int32)) + (1 : Int32)) < (2 : Int32)))).2.1 (by decide) (by decide) ?_
            show Sp p e below T10246 (mkF m 62 (lt26 r0 r1 w_2 r1 (2 : Int32) (((0 : Int32) + (1 : Int32)) + (1 : Int32)) x_r1_1) []) _
            refine XS.aloadN X10246.here hx rfl (hb hby d10_62) rfl rfl ?_
            show Sp p e below T10246 (mkF m 63 (lt26 r0 r1 w_2 r1 (2 : Int32) (((0 : Int32) + (1 : Int32)) + (1 : Int32)) x_r1_1) [(.ref w_2)]) _
            jvm_step X10246.here [X10246.here.top, hx, (hb hby d10_63), X10246.method', Bd.returns, Value.isRef, FieldType.isReference]
            first | (intro acts; rw [hr _ acts rfl rfl rfl]) | rw [hr _ _ rfl rfl rfl]
            exact Steps.refl _
          · show Q10x3 Z w_1 w_2 r0 r1 r0_f0 r0_f0_f3 r0_f1 r0_f1_f3 x_r0_f0_f4 k_r0_f0_f3 x_r0_f0_f3_n x_r0_f0_f3_F x_r0_f1_f4 k_r0_f1_f3 x_r0_f1_f3_n x_r0_f1_f3_F k_r1 x_r1_0 x_r1_1 h0 n0 _ T10246.heap _
            rw [e10246]
            exact ⟨by unfold sp10x3; rw [if_pos hc10220, if_neg hc10224, if_pos hc10241, if_neg hc10245], N10243, rfl⟩
      · obtain ⟨T10247, X10247, e10247, st10247⟩ := getS2 X10239 hx hZ hown (host := "") (Or.inl (hw _ (tk 88 rfl))) Via.refl e10239 (S_1.ext O0.2) (g := (mkF m 36 (lt26 r0 r1 w_2 r1 (2 : Int32) ((0 : Int32) + (1 : Int32)) x_r1_1) [])) rfl (hb hby d10_36)
        obtain ⟨fs, hr, hrun, hended, hW, hsame⟩ := X10247.leave (v := some (.ref w_1)) (fun h => by rw [Bd.returns] at h; cases h)
        refine ⟨_, _, pre10240 _ ?_, hrun, hended, _, _, rfl, ?_, ⟨_, rfl⟩, hW, hsame.mono (by decide) (by decide)⟩
        · show Sp p e below T10239 (mkF m 33 (lt26 r0 r1 w_2 r1 (2 : Int32) ((0 : Int32) + (1 : Int32)) x_r1_1) [(.int (sp11x1 x_r1_1 x_r0_f0_f4 x_r0_f0_f3_F))]) _
          refine XS.ifNo X10239.here hx rfl (hb hby d10_33) rfl ((if0 _ _).trans (feq hc10241).1) ?_
          show Sp p e below T10239 (mkF m 36 (lt26 r0 r1 w_2 r1 (2 : Int32) ((0 : Int32) + (1 : Int32)) x_r1_1) []) _
          refine st10247 _ ?_
          show Sp p e below T10247 (mkF m 39 (lt26 r0 r1 w_2 r1 (2 : Int32) ((0 : Int32) + (1 : Int32)) x_r1_1) [(.ref w_1)]) _
          jvm_step X10247.here [X10247.here.top, hx, (hb hby d10_39), X10247.method', Bd.returns, Value.isRef, FieldType.isReference]
          first | (intro acts; rw [hr _ acts rfl rfl rfl]) | rw [hr _ _ rfl rfl rfl]
          exact Steps.refl _
        · show Q10x3 Z w_1 w_2 r0 r1 r0_f0 r0_f0_f3 r0_f1 r0_f1_f3 x_r0_f0_f4 k_r0_f0_f3 x_r0_f0_f3_n x_r0_f0_f3_F x_r0_f1_f4 k_r0_f1_f3 x_r0_f1_f3_n x_r0_f1_f3_F k_r1 x_r1_0 x_r1_1 h0 n0 _ T10247.heap _
          rw [e10247]
          exact ⟨by unfold sp10x3; rw [if_pos hc10220, if_neg hc10224, if_neg hc10241], N10239, rfl⟩
  · obtain ⟨T10248, X10248, e10248, st10248⟩ := getS2 X10218 hx hZ hown (host := "") (Or.inl (hw _ (tk 88 rfl))) Via.refl e10218 (S_1.ext O0.2) (g := (mkF m 36 (lt25 r0 r1 r1 (2 : Int32) (0 : Int32) x_r1_0) [])) rfl (hb hby d10_36)
    obtain ⟨fs, hr, hrun, hended, hW, hsame⟩ := X10248.leave (v := some (.ref w_1)) (fun h => by rw [Bd.returns] at h; cases h)
    refine ⟨_, _, pre10219 _ ?_, hrun, hended, _, _, rfl, ?_, ⟨_, rfl⟩, hW, hsame.mono (by decide) (by decide)⟩
    · show Sp p e below T10218 (mkF m 33 (lt25 r0 r1 r1 (2 : Int32) (0 : Int32) x_r1_0) [(.int (sp11x1 x_r1_0 x_r0_f0_f4 x_r0_f0_f3_F))]) _
      refine XS.ifNo X10218.here hx rfl (hb hby d10_33) rfl ((if0 _ _).trans (feq hc10220).1) ?_
      show Sp p e below T10218 (mkF m 36 (lt25 r0 r1 r1 (2 : Int32) (0 : Int32) x_r1_0) []) _
      refine st10248 _ ?_
      show Sp p e below T10248 (mkF m 39 (lt25 r0 r1 r1 (2 : Int32) (0 : Int32) x_r1_0) [(.ref w_1)]) _
      jvm_step X10248.here [X10248.here.top, hx, (hb hby d10_39), X10248.method', Bd.returns, Value.isRef, FieldType.isReference]
      first | (intro acts; rw [hr _ acts rfl rfl rfl]) | rw [hr _ _ rfl rfl rfl]
      exact Steps.refl _
    · show Q10x3 Z w_1 w_2 r0 r1 r0_f0 r0_f0_f3 r0_f1 r0_f1_f3 x_r0_f0_f4 k_r0_f0_f3 x_r0_f0_f3_n x_r0_f0_f3_F x_r0_f1_f4 k_r0_f1_f3 x_r0_f1_f3_n x_r0_f1_f3_F k_r1 x_r1_0 x_r1_1 h0 n0 _ T10248.heap _
      rw [e10248]
      exact ⟨by unfold sp10x3; rw [if_neg hc10220], N10218, rfl⟩
theorem isr10x3 (w_1 : Addr) (w_2 : Addr) (x_r0_f0_f4 : Int32) (x_r0_f0_f3_F : Nat → Int64) (x_r0_f1_f4 : Int32) (x_r0_f1_f3_F : Nat → Int64) (x_r1_0 : Int32) (x_r1_1 : Int32) : (sp10x3 w_1 w_2 x_r0_f0_f4 x_r0_f0_f3_F x_r0_f1_f4 x_r0_f1_f3_F x_r1_0 x_r1_1).isRef = true := (own_iteR (own_iteR (own_iteR (own_iteR rfl rfl) rfl) (own_iteR (own_iteR rfl rfl) rfl)) rfl)
theorem pn_10x4 : plainName "com/example/vetd/vetd/Policy$Lines" = true := by first | (simp [plainName, overriddenIn]; done) | decide +kernel
theorem ef_10x4 (m : MethodId) (r0 : Addr) (r1 : Addr) : entryFrame m #[(.ref r0), (.ref r1)] 7 = mkF m 0 #[.val (.ref r0), .val (.ref r1), .unset, .unset, .unset, .unset, .unset] [] := by first | (simp [entryFrame, mkF, argsToLocals, Value.category]; done) | rfl
def sp10x4 (w_1 : Addr) (w_2 : Addr) (x_r0_f0_f4 : Int32) (x_r0_f0_f3_F : Nat → Int64) (x_r0_f1_f4 : Int32) (x_r0_f1_f3_F : Nat → Int64) (x_r1_0 : Int32) (x_r1_1 : Int32) (x_r1_2 : Int32) : Value := (if (sp11x1 x_r1_0 x_r0_f0_f4 x_r0_f0_f3_F) = (0 : Int32) then (if (sp11x1 x_r1_0 x_r0_f1_f4 x_r0_f1_f3_F) = (0 : Int32) then (if (sp11x1 x_r1_1 x_r0_f0_f4 x_r0_f0_f3_F) = (0 : Int32) then (if (sp11x1 x_r1_1 x_r0_f1_f4 x_r0_f1_f3_F) = (0 : Int32) then (if (sp11x1 x_r1_2 x_r0_f0_f4 x_r0_f0_f3_F) = (0 : Int32) then (if (sp11x1 x_r1_2 x_r0_f1_f4 x_r0_f1_f3_F) = (0 : Int32) then .null else (.ref w_2)) else (.ref w_1)) else (if (sp11x1 x_r1_2 x_r0_f0_f4 x_r0_f0_f3_F) = (0 : Int32) then (if (sp11x1 x_r1_2 x_r0_f1_f4 x_r0_f1_f3_F) = (0 : Int32) then (.ref w_2) else (.ref w_2)) else (.ref w_1))) else (.ref w_1)) else (if (sp11x1 x_r1_1 x_r0_f0_f4 x_r0_f0_f3_F) = (0 : Int32) then (if (sp11x1 x_r1_1 x_r0_f1_f4 x_r0_f1_f3_F) = (0 : Int32) then (if (sp11x1 x_r1_2 x_r0_f0_f4 x_r0_f0_f3_F) = (0 : Int32) then (if (sp11x1 x_r1_2 x_r0_f1_f4 x_r0_f1_f3_F) = (0 : Int32) then (.ref w_2) else (.ref w_2)) else (.ref w_1)) else (if (sp11x1 x_r1_2 x_r0_f0_f4 x_r0_f0_f3_F) = (0 : Int32) then (if (sp11x1 x_r1_2 x_r0_f1_f4 x_r0_f1_f3_F) = (0 : Int32) then (.ref w_2) else (.ref w_2)) else (.ref w_1))) else (.ref w_1))) else (.ref w_1))
def Q10x4 (Z : State) (w_1 : Addr) (w_2 : Addr) (r0 : Addr) (r1 : Addr) (r0_f0 : Addr) (r0_f0_f3 : Addr) (r0_f1 : Addr) (r0_f1_f3 : Addr) (x_r0_f0_f4 : Int32) (k_r0_f0_f3 : ClassId) (x_r0_f0_f3_n : Int32) (x_r0_f0_f3_F : Nat → Int64) (x_r0_f1_f4 : Int32) (k_r0_f1_f3 : ClassId) (x_r0_f1_f3_n : Int32) (x_r0_f1_f3_F : Nat → Int64) (k_r1 : ClassId) (x_r1_0 : Int32) (x_r1_1 : Int32) (x_r1_2 : Int32) (h0 : Heap) (n0 : Nat) (v : Option Value) (h : Heap) (L : List Loc) : Prop := v = some (sp10x4 w_1 w_2 x_r0_f0_f4 x_r0_f0_f3_F x_r0_f1_f4 x_r0_f1_f3_F x_r1_0 x_r1_1 x_r1_2) ∧ Fr n0 L ∧ h = h0
set_option maxRecDepth 65536 in
set_option maxHeartbeats 40000000 in
theorem rm10x4 (l : Launch) (Z : State) (a0 : Array Value) (hw : ∀ d ∈ tables_1, d.before a0 Z = true) (hv : ∀ d ∈ jdkStatics_1, d.before a0 Z = true) (ws : List Jvm.Cond) (w_1 : Addr) (w_2 : Addr) (hS : StF Z w_1 w_2) (r0 : Addr) (r1 : Addr) (r0_f0 : Addr) (r0_f0_f3 : Addr) (r0_f1 : Addr) (r0_f1_f3 : Addr) (x_r0_f0_f4 : Int32) (k_r0_f0_f3 : ClassId) (x_r0_f0_f3_n : Int32) (x_r0_f0_f3_F : Nat → Int64) (x_r0_f1_f4 : Int32) (k_r0_f1_f3 : ClassId) (x_r0_f1_f3_n : Int32) (x_r0_f1_f3_F : Nat → Int64) (k_r1 : ClassId) (x_r1_0 : Int32) (x_r1_1 : Int32) (x_r1_2 : Int32) (h0 : Heap) (n0 : Nat) (O0 : Old Z n0 h0) (g_r0 : n0 ≤ r0) (g_r0_f0 : n0 ≤ r0_f0) (g_r0_f0_f3 : n0 ≤ r0_f0_f3) (g_r0_f1 : n0 ≤ r0_f1) (g_r0_f1_f3 : n0 ≤ r0_f1_f3) (g_r1 : n0 ≤ r1) (E_r0 : Exa Z h0 r0 "com/example/vetd/vetd/Policy$Lines") (F_denied_r0 : Fld Z h0 r0 "com/example/vetd/vetd/Policy$Lines" "denied" "Ljava/util/BitSet;" (.ref r0_f0)) (F_permitted_r0 : Fld Z h0 r0 "com/example/vetd/vetd/Policy$Lines" "permitted" "Ljava/util/BitSet;" (.ref r0_f1)) (E_r0_f0 : Exa Z h0 r0_f0 "java/util/BitSet") (F_words_r0_f0 : Fld Z h0 r0_f0 "java/util/BitSet" "words" "[J" (.ref r0_f0_f3)) (F_wordsInUse_r0_f0 : Fld Z h0 r0_f0 "java/util/BitSet" "wordsInUse" "I" (.int x_r0_f0_f4)) (V_r0_f0_f3 : Arj Z h0 r0_f0_f3 k_r0_f0_f3 x_r0_f0_f3_n x_r0_f0_f3_F) (E_r0_f1 : Exa Z h0 r0_f1 "java/util/BitSet") (F_words_r0_f1 : Fld Z h0 r0_f1 "java/util/BitSet" "words" "[J" (.ref r0_f1_f3)) (F_wordsInUse_r0_f1 : Fld Z h0 r0_f1 "java/util/BitSet" "wordsInUse" "I" (.int x_r0_f1_f4)) (V_r0_f1_f3 : Arj Z h0 r0_f1_f3 k_r0_f1_f3 x_r0_f1_f3_n x_r0_f1_f3_F) (V_r1 : Arv Z h0 r1 k_r1 .int (3 : Int32) [(.int x_r1_0), (.int x_r1_1), (.int x_r1_2)] (.int (0 : Int32))) (ne_r0_r0_f0 : r0 ≠ r0_f0) (ne_r0_r0_f0_f3 : r0 ≠ r0_f0_f3) (ne_r0_r0_f1 : r0 ≠ r0_f1) (ne_r0_r0_f1_f3 : r0 ≠ r0_f1_f3) (ne_r0_r1 : r0 ≠ r1) (ne_r0_f0_r0_f0_f3 : r0_f0 ≠ r0_f0_f3) (ne_r0_f0_r0_f1 : r0_f0 ≠ r0_f1) (ne_r0_f0_r0_f1_f3 : r0_f0 ≠ r0_f1_f3) (ne_r0_f0_r1 : r0_f0 ≠ r1) (ne_r0_f0_f3_r0_f1 : r0_f0_f3 ≠ r0_f1) (ne_r0_f0_f3_r0_f1_f3 : r0_f0_f3 ≠ r0_f1_f3) (ne_r0_f0_f3_r1 : r0_f0_f3 ≠ r1) (ne_r0_f1_r0_f1_f3 : r0_f1 ≠ r0_f1_f3) (ne_r0_f1_r1 : r0_f1 ≠ r1) (ne_r0_f1_f3_r1 : r0_f1_f3 ≠ r1) (as0 : ¬ (x_r1_0 < (0 : Int32))) (as1 : ¬ ((x_r1_0 >>> ((6 : Int32) &&& 31)) < (0 : Int32))) (as2 : ¬ (x_r1_1 < (0 : Int32))) (as3 : ¬ ((x_r1_1 >>> ((6 : Int32) &&& 31)) < (0 : Int32))) (as4 : ¬ (x_r1_2 < (0 : Int32))) (as5 : ¬ ((x_r1_2 >>> ((6 : Int32) &&& 31)) < (0 : Int32))) (as6 : ¬ (x_r0_f1_f3_n < x_r0_f1_f4)) (as7 : ¬ (x_r0_f0_f3_n < x_r0_f0_f4)) :
    MetFree l Y31 (head1 (Jvm.Cond.code Y31 prog_20_method_2_code 7 (some (.object "com/example/vetd/vetd/Decision")) :: ws) ({ frames := 2, cells := 0, slots := 0, locals := 26 } : Room)) (fun a U => a = #[(.ref r0), (.ref r1)] ∧ Z.Warmed39 U.vm ∧ U.heap = h0) (fun _ _ _ _ _ => True) (fun _ U o U' => ∃ v L, o = .returned v ∧ Q10x4 Z w_1 w_2 r0 r1 r0_f0 r0_f0_f3 r0_f1 r0_f1_f3 x_r0_f0_f4 k_r0_f0_f3 x_r0_f0_f3_n x_r0_f0_f3_F x_r0_f1_f4 k_r0_f1_f3 x_r0_f1_f3_n x_r0_f1_f3_F k_r1 x_r1_0 x_r1_1 x_r1_2 h0 n0 v U'.heap L ∧ FrameEnd U o U' L ({ frames := 2, cells := 0, slots := 0, locals := 26 } : Room).cells ({ frames := 2, cells := 0, slots := 0, locals := 26 } : Room).slots) := by
  refine MetFree.of_bodySF (plainFor_of_name pn_10x4) hisR ?_
  intro p e s m args below meth c s₁ Bd hml0 hP hK
  obtain ⟨rfl, hZ, hh⟩ := hP
  have hx := Bd.exec
  have hby := Bd.bytes
  have hml : c.maxLocals = 7 := hml0
  have hown : s.vm.findClass "com/example/vetd/vetd/Policy$Lines" = some m.cls := findClass_of_methodNamed Bd.named
  have hnm := (name_of_methodNamed Bd.named Bd.method).1
  have X0 : Stand p l e ({ frames := 2, cells := 0, slots := 0, locals := 26 } : Room) s m #[(.ref r0), (.ref r1)] below meth c s₁ [] 0 0 := Stand.of_body Bd
  have e0 : s₁.heap = h0 := by rw [← hh, Bd.state]; rfl
  have N0 := Fr.nil n0
  have hS0 := hS
  obtain ⟨S_1, E_1, S_2, E_2, S_3⟩ := hS
  have pre0 : ∀ t, Steps p.tables e below (s₁.setTop (mkF m 0 #[.val (.ref r0), .val (.ref r1), .unset, .unset, .unset, .unset, .unset] [])) t → Steps p.tables e below (s₁.setTop (entryFrame m #[(.ref r0), (.ref r1)] 7)) t := fun t k => castTop (ef_10x4 m r0 r1) k
  generalize hE0 : s₁.setTop (entryFrame m #[(.ref r0), (.ref r1)] 7) = E0 at pre0 ⊢
  obtain ⟨cl10298, Ar10298, qa10298, Sa10298, Ma10298, Ha10298, Ga10298⟩ := id V_r1
  obtain ⟨cl10299, Ar10299, qa10299, Sa10299, Ma10299, Ha10299, Ga10299⟩ := id V_r1
  have hin10299 : ¬ ((0 : Int32) < 0 ∨ cl10299.slots.size ≤ ((0 : Int32)).toNatClampNeg) := by  exact inb_of Sa10299 ⟨by decide, by decide⟩
  have hat10299 : cl10299.slots[((0 : Int32)).toNatClampNeg]? = some (.int x_r1_0) := Has.at Ha10299 hin10299 (by rfl)
  obtain ⟨T10300, X10300, e10300, st10300⟩ := getF X0 hx hZ hown (host := "") (Or.inl (hw _ (tk 33 rfl))) Via.refl e0 F_denied_r0 (g := (mkF m 25 (lt25 r0 r1 r1 (3 : Int32) (0 : Int32) x_r1_0) [(.ref r0)])) rfl rfl (hb hby d10_25)
  obtain ⟨cq10301, kq10301, q10301a, q10301b, q10301c⟩ := isOf hZ e10300 E_r0_f0
  obtain ⟨_, _, ⟨T10301, L10301, k10301, n10301⟩, -, X10301, ⟨Lc10301, hQ10301, l10301, y10301, z10301⟩, st10301⟩ := X10300.virtualBack hx (y := Y37) (z := Y37) hown (mvT hZ (hw _ (tk 63 rfl))) (mvT hZ (hw _ (tk 64 rfl))) (notFace_of_selects (args := #[]) (mvT hZ (hw _ (tk 66 rfl)))) (mvT hZ (hw _ (tk 66 rfl))) (mvT hZ (hw _ (tk 65 rfl))) (by decide) (backOf (W := 0) (rm11x1 l Z a0 hw hv [] w_1 w_2 hS0 r0_f0 x_r1_0 r0_f0_f3 x_r0_f0_f4 k_r0_f0_f3 x_r0_f0_f3_n x_r0_f0_f3_F h0 n0 O0 g_r0_f0 g_r0_f0_f3 E_r0_f0 F_words_r0_f0 F_wordsInUse_r0_f0 V_r0_f0_f3 ne_r0_f0_r0_f0_f3 as0 as1 as7) hZ (hw _ (tk 67 rfl)) (hw _ (tk 11 rfl)) (by decide) (by decide)) q10301a q10301c (g := (mkF m 30 (lt25 r0 r1 r1 (3 : Int32) (0 : Int32) x_r1_0) [(.int x_r1_0), (.ref r0_f0)])) rfl (by rw [hml]; rfl) (Steps.refl _) (argsL := [(.int x_r1_0)]) (rest := []) (lenOf pd_6 rfl) rfl (by show 2 * 0 + _ ≤ _; exact Nat.le_of_eq rfl) (hb hby d10_30) (fun _ _ => ⟨rfl, e10300, (by decide : 0 + 0 ≤ _), (by decide : 0 + 0 ≤ _)⟩)
  dsimp only [Pt.U, Pt.locs, Pt.cells, Pt.slots] at X10301 l10301 y10301 z10301 st10301 hQ10301
  subst l10301 y10301 z10301
  obtain ⟨rv10301, N10301q, e10301⟩ := hQ10301
  subst rv10301
  have N10301 := Fr.app N0 N10301q
  have pre10302 : Cm p e below E0 (T10301.setTop (mkF m 33 (lt25 r0 r1 r1 (3 : Int32) (0 : Int32) x_r1_0) [(.int (sp11x1 x_r1_0 x_r0_f0_f4 x_r0_f0_f3_F))])) := fun t kt => by
    refine pre0 t ?_
    show Sp p e below s₁ (mkF m 0 (lt16 r0 r1) []) _
    refine XS.aconstNull X0.here hx rfl (hb hby d10_0) ?_
    refine XS.astoreN X0.here hx rfl (hb hby d10_1) rfl rfl (l' := (lt17 r0 r1)) rfl ?_
    show Sp p e below s₁ (mkF m 2 (lt17 r0 r1) []) _
    refine XS.aloadN X0.here hx rfl (hb hby d10_2) rfl rfl ?_
    refine XS.astoreN X0.here hx rfl (hb hby d10_3) rfl rfl (l' := (lt18 r0 r1 r1)) rfl ?_
    show Sp p e below s₁ (mkF m 4 (lt18 r0 r1 r1) []) _
    refine XS.aloadN X0.here hx rfl (hb hby d10_4) rfl rfl ?_
    show Sp p e below s₁ (mkF m 5 (lt18 r0 r1 r1) [(.ref r1)]) _
    refine X0.arraylength hx (by rw [e0]; exact Ar10298.1) (State.isArrayOf_alike hZ.alike Ar10298.2.1) (g := (mkF m 5 (lt18 r0 r1 r1) [(.ref r1)])) rfl rfl (hb hby d10_5) _ ?_
    rw [len_of Sa10298 Ma10298]
    show Sp p e below s₁ (mkF m 6 (lt18 r0 r1 r1) [(.int (3 : Int32))]) _
    refine XS.istore X0.here hx rfl (hb hby d10_6) rfl (l' := (lt19 r0 r1 r1 (3 : Int32))) rfl ?_
    refine XS.iconst X0.here hx rfl (hb hby d10_8) ?_
    show Sp p e below s₁ (mkF m 9 (lt19 r0 r1 r1 (3 : Int32)) [(.int (0 : Int32))]) _
    refine XS.istore X0.here hx rfl (hb hby d10_9) rfl (l' := (lt20 r0 r1 r1 (3 : Int32) (0 : Int32))) rfl ?_
    refine XS.iload X0.here hx rfl (hb hby d10_11) rfl ?_
    show Sp p e below s₁ (mkF m 13 (lt20 r0 r1 r1 (3 : Int32) (0 : Int32)) [(.int (0 : Int32))]) _
    refine XS.iload X0.here hx rfl (hb hby d10_13) rfl ?_
    show Sp p e below s₁ (mkF m 15 (lt20 r0 r1 r1 (3 : Int32) (0 : Int32)) [(.int (3 : Int32)), (.int (0 : Int32))]) _
    refine XS.icmpNo X0.here hx rfl (hb hby d10_15) rfl (tlt (by decide : ((0 : Int32) < (3 : Int32)))).2.1 ?_
    show Sp p e below s₁ (mkF m 18 (lt20 r0 r1 r1 (3 : Int32) (0 : Int32)) []) _
    refine XS.aloadN X0.here hx rfl (hb hby d10_18) rfl rfl ?_
    refine XS.iload X0.here hx rfl (hb hby d10_19) rfl ?_
    show Sp p e below s₁ (mkF m 21 (lt20 r0 r1 r1 (3 : Int32) (0 : Int32)) [(.int (0 : Int32)), (.ref r1)]) _
    refine X0.iaload hx (j := (0 : Int32)) (v := (.int x_r1_0)) (by rw [e0]; exact Ar10299.1) (State.isArrayOf_alike hZ.alike Ar10299.2.1) Ar10299.2.2 hin10299 hat10299 (g := (mkF m 21 (lt20 r0 r1 r1 (3 : Int32) (0 : Int32)) [(.int (0 : Int32)), (.ref r1)])) rfl rfl (hb hby d10_21) _ ?_
    show Sp p e below s₁ (mkF m 22 (lt20 r0 r1 r1 (3 : Int32) (0 : Int32)) [(.int x_r1_0)]) _
    refine XS.istore X0.here hx rfl (hb hby d10_22) rfl (l' := (lt25 r0 r1 r1 (3 : Int32) (0 : Int32) x_r1_0)) rfl ?_
    refine XS.aloadN X0.here hx rfl (hb hby d10_24) rfl rfl ?_
    show Sp p e below s₁ (mkF m 25 (lt25 r0 r1 r1 (3 : Int32) (0 : Int32) x_r1_0) [(.ref r0)]) _
    refine st10300 _ ?_
    show Sp p e below T10300 (mkF m 28 (lt25 r0 r1 r1 (3 : Int32) (0 : Int32) x_r1_0) [(.ref r0_f0)]) _
    refine XS.iload X10300.here hx rfl (hb hby d10_28) rfl ?_
    show Sp p e below T10300 (mkF m 30 (lt25 r0 r1 r1 (3 : Int32) (0 : Int32) x_r1_0) [(.int x_r1_0), (.ref r0_f0)]) _
    refine st10301.trans ?_
    show Sp p e below T10301 (mkF m 33 (lt25 r0 r1 r1 (3 : Int32) (0 : Int32) x_r1_0) [(.int (sp11x1 x_r1_0 x_r0_f0_f4 x_r0_f0_f3_F))]) _
    exact kt
  by_cases hc10303 : (sp11x1 x_r1_0 x_r0_f0_f4 x_r0_f0_f3_F) = (0 : Int32)
  · obtain ⟨T10304, X10304, e10304, st10304⟩ := getF X10301 hx hZ hown (host := "") (Or.inl (hw _ (tk 31 rfl))) Via.refl e10301 F_permitted_r0 (g := (mkF m 41 (lt25 r0 r1 r1 (3 : Int32) (0 : Int32) x_r1_0) [(.ref r0)])) rfl rfl (hb hby d10_41)
    obtain ⟨cq10305, kq10305, q10305a, q10305b, q10305c⟩ := isOf hZ e10304 E_r0_f1
    obtain ⟨_, _, ⟨T10305, L10305, k10305, n10305⟩, -, X10305, ⟨Lc10305, hQ10305, l10305, y10305, z10305⟩, st10305⟩ := X10304.virtualBack hx (y := Y37) (z := Y37) hown (mvT hZ (hw _ (tk 63 rfl))) (mvT hZ (hw _ (tk 64 rfl))) (notFace_of_selects (args := #[]) (mvT hZ (hw _ (tk 66 rfl)))) (mvT hZ (hw _ (tk 66 rfl))) (mvT hZ (hw _ (tk 65 rfl))) (by decide) (backOf (W := 0) (rm11x1 l Z a0 hw hv [] w_1 w_2 hS0 r0_f1 x_r1_0 r0_f1_f3 x_r0_f1_f4 k_r0_f1_f3 x_r0_f1_f3_n x_r0_f1_f3_F h0 n0 O0 g_r0_f1 g_r0_f1_f3 E_r0_f1 F_words_r0_f1 F_wordsInUse_r0_f1 V_r0_f1_f3 ne_r0_f1_r0_f1_f3 as0 as1 as6) hZ (hw _ (tk 67 rfl)) (hw _ (tk 11 rfl)) (by decide) (by decide)) q10305a q10305c (g := (mkF m 46 (lt25 r0 r1 r1 (3 : Int32) (0 : Int32) x_r1_0) [(.int x_r1_0), (.ref r0_f1)])) rfl (by rw [hml]; rfl) (Steps.refl _) (argsL := [(.int x_r1_0)]) (rest := []) (lenOf pd_6 rfl) rfl (by show 2 * 0 + _ ≤ _; exact Nat.le_of_eq rfl) (hb hby d10_46) (fun _ _ => ⟨rfl, e10304, (by decide : 0 + 0 ≤ _), (by decide : 0 + 0 ≤ _)⟩)
    dsimp only [Pt.U, Pt.locs, Pt.cells, Pt.slots] at X10305 l10305 y10305 z10305 st10305 hQ10305
    subst l10305 y10305 z10305
    obtain ⟨rv10305, N10305q, e10305⟩ := hQ10305
    subst rv10305
    have N10305 := Fr.app N10301 N10305q
    have pre10306 : Cm p e below E0 (T10305.setTop (mkF m 49 (lt25 r0 r1 r1 (3 : Int32) (0 : Int32) x_r1_0) [(.int (sp11x1 x_r1_0 x_r0_f1_f4 x_r0_f1_f3_F))])) := fun t kt => by
      refine pre10302 t ?_
      show Sp p e below T10301 (mkF m 33 (lt25 r0 r1 r1 (3 : Int32) (0 : Int32) x_r1_0) [(.int (sp11x1 x_r1_0 x_r0_f0_f4 x_r0_f0_f3_F))]) _
      refine XS.ifYes X10301.here hx rfl (pc0 := 33) (pc' := 40) rfl (hb hby d10_33) rfl ((if0 _ _).trans (teq hc10303).1) (by decide) (by decide) ?_
      show Sp p e below T10301 (mkF m 40 (lt25 r0 r1 r1 (3 : Int32) (0 : Int32) x_r1_0) []) _
      refine XS.aloadN X10301.here hx rfl (hb hby d10_40) rfl rfl ?_
      show Sp p e below T10301 (mkF m 41 (lt25 r0 r1 r1 (3 : Int32) (0 : Int32) x_r1_0) [(.ref r0)]) _
      refine st10304 _ ?_
      show Sp p e below T10304 (mkF m 44 (lt25 r0 r1 r1 (3 : Int32) (0 : Int32) x_r1_0) [(.ref r0_f1)]) _
      refine XS.iload X10304.here hx rfl (hb hby d10_44) rfl ?_
      show Sp p e below T10304 (mkF m 46 (lt25 r0 r1 r1 (3 : Int32) (0 : Int32) x_r1_0) [(.int x_r1_0), (.ref r0_f1)]) _
      refine st10305.trans ?_
      show Sp p e below T10305 (mkF m 49 (lt25 r0 r1 r1 (3 : Int32) (0 : Int32) x_r1_0) [(.int (sp11x1 x_r1_0 x_r0_f1_f4 x_r0_f1_f3_F))]) _
      exact kt
    by_cases hc10307 : (sp11x1 x_r1_0 x_r0_f1_f4 x_r0_f1_f3_F) = (0 : Int32)
    · obtain ⟨cl10308, Ar10308, qa10308, Sa10308, Ma10308, Ha10308, Ga10308⟩ := id V_r1
      have hin10308 : ¬ (((0 : Int32) + (1 : Int32)) < 0 ∨ cl10308.slots.size ≤ (((0 : Int32) + (1 : Int32))).toNatClampNeg) := by  exact inb_of Sa10308 ⟨by decide, by decide⟩
      have hat10308 : cl10308.slots[(((0 : Int32) + (1 : Int32))).toNatClampNeg]? = some (.int x_r1_1) := Has.at Ha10308 hin10308 (by rfl)
      obtain ⟨T10309, X10309, e10309, st10309⟩ := getF X10305 hx hZ hown (host := "") (Or.inl (hw _ (tk 33 rfl))) Via.refl e10305 F_denied_r0 (g := (mkF m 25 (lt25 r0 r1 r1 (3 : Int32) ((0 : Int32) + (1 : Int32)) x_r1_1) [(.ref r0)])) rfl rfl (hb hby d10_25)
      obtain ⟨cq10310, kq10310, q10310a, q10310b, q10310c⟩ := isOf hZ e10309 E_r0_f0
      obtain ⟨_, _, ⟨T10310, L10310, k10310, n10310⟩, -, X10310, ⟨Lc10310, hQ10310, l10310, y10310, z10310⟩, st10310⟩ := X10309.virtualBack hx (y := Y37) (z := Y37) hown (mvT hZ (hw _ (tk 63 rfl))) (mvT hZ (hw _ (tk 64 rfl))) (notFace_of_selects (args := #[]) (mvT hZ (hw _ (tk 66 rfl)))) (mvT hZ (hw _ (tk 66 rfl))) (mvT hZ (hw _ (tk 65 rfl))) (by decide) (backOf (W := 0) (rm11x1 l Z a0 hw hv [] w_1 w_2 hS0 r0_f0 x_r1_1 r0_f0_f3 x_r0_f0_f4 k_r0_f0_f3 x_r0_f0_f3_n x_r0_f0_f3_F h0 n0 O0 g_r0_f0 g_r0_f0_f3 E_r0_f0 F_words_r0_f0 F_wordsInUse_r0_f0 V_r0_f0_f3 ne_r0_f0_r0_f0_f3 as2 as3 as7) hZ (hw _ (tk 67 rfl)) (hw _ (tk 11 rfl)) (by decide) (by decide)) q10310a q10310c (g := (mkF m 30 (lt25 r0 r1 r1 (3 : Int32) ((0 : Int32) + (1 : Int32)) x_r1_1) [(.int x_r1_1), (.ref r0_f0)])) rfl (by rw [hml]; rfl) (Steps.refl _) (argsL := [(.int x_r1_1)]) (rest := []) (lenOf pd_6 rfl) rfl (by show 2 * 0 + _ ≤ _; exact Nat.le_of_eq rfl) (hb hby d10_30) (fun _ _ => ⟨rfl, e10309, (by decide : 0 + 0 ≤ _), (by decide : 0 + 0 ≤ _)⟩)
      dsimp only [Pt.U, Pt.locs, Pt.cells, Pt.slots] at X10310 l10310 y10310 z10310 st10310 hQ10310
      subst l10310 y10310 z10310
      obtain ⟨rv10310, N10310q, e10310⟩ := hQ10310
      subst rv10310
      have N10310 := Fr.app N10305 N10310q
      have pre10311 : Cm p e below E0 (T10310.setTop (mkF m 33 (lt25 r0 r1 r1 (3 : Int32) ((0 : Int32) + (1 : Int32)) x_r1_1) [(.int (sp11x1 x_r1_1 x_r0_f0_f4 x_r0_f0_f3_F))])) := fun t kt => by
        refine pre10306 t ?_
        show Sp p e below T10305 (mkF m 49 (lt25 r0 r1 r1 (3 : Int32) (0 : Int32) x_r1_0) [(.int (sp11x1 x_r1_0 x_r0_f1_f4 x_r0_f1_f3_F))]) _
        refine XS.ifYes X10305.here hx rfl (pc0 := 49) (pc' := 56) rfl (hb hby d10_49) rfl ((if0 _ _).trans (teq hc10307).1) (by decide) (by decide) ?_
        show Sp p e below T10305 (mkF m 56 (lt25 r0 r1 r1 (3 : Int32) (0 : Int32) x_r1_0) []) _
        refine XS.iinc X10305.here hx rfl (hb hby d10_56) rfl (l' := (lt25 r0 r1 r1 (3 : Int32) ((0 : Int32) + (1 : Int32)) x_r1_0)) rfl ?_
        show Sp p e below T10305 (mkF m 59 (lt25 r0 r1 r1 (3 : Int32) ((0 : Int32) + (1 : Int32)) x_r1_0) []) _
        refine XS.goto X10305.here hx rfl (pc0 := 59) (pc' := 11) rfl (hb hby d10_59) (by decide) (by decide) ?_
        show Sp p e below T10305 (mkF m 11 (lt25 r0 r1 r1 (3 : Int32) ((0 : Int32) + (1 : Int32)) x_r1_0) []) _
        refine XS.iload X10305.here hx rfl (hb hby d10_11) rfl ?_
        refine XS.iload X10305.here hx rfl (hb hby d10_13) rfl ?_
        show Sp p e below T10305 (mkF m 15 (lt25 r0 r1 r1 (3 : Int32) ((0 : Int32) + (1 : Int32)) x_r1_0) [(.int (3 : Int32)), (.int ((0 : Int32) + (1 : Int32)))]) _
        refine XS.icmpNo X10305.here hx rfl (hb hby d10_15) rfl (tlt (by decide : (((0 : Int32) + (1 : Int32)) < (3 : Int32)))).2.1 ?_
        show Sp p e below T10305 (mkF m 18 (lt25 r0 r1 r1 (3 : Int32) ((0 : Int32) + (1 : Int32)) x_r1_0) []) _
        refine XS.aloadN X10305.here hx rfl (hb hby d10_18) rfl rfl ?_
        refine XS.iload X10305.here hx rfl (hb hby d10_19) rfl ?_
        show Sp p e below T10305 (mkF m 21 (lt25 r0 r1 r1 (3 : Int32) ((0 : Int32) + (1 : Int32)) x_r1_0) [(.int ((0 : Int32) + (1 : Int32))), (.ref r1)]) _
        refine X10305.iaload hx (j := ((0 : Int32) + (1 : Int32))) (v := (.int x_r1_1)) (by rw [e10305]; exact Ar10308.1) (State.isArrayOf_alike hZ.alike Ar10308.2.1) Ar10308.2.2 hin10308 hat10308 (g := (mkF m 21 (lt25 r0 r1 r1 (3 : Int32) ((0 : Int32) + (1 : Int32)) x_r1_0) [(.int ((0 : Int32) + (1 : Int32))), (.ref r1)])) rfl rfl (hb hby d10_21) _ ?_
        show Sp p e below T10305 (mkF m 22 (lt25 r0 r1 r1 (3 : Int32) ((0 : Int32) + (1 : Int32)) x_r1_0) [(.int x_r1_1)]) _
        refine XS.istore X10305.here hx rfl (hb hby d10_22) rfl (l' := (lt25 r0 r1 r1 (3 : Int32) ((0 : Int32) + (1 : Int32)) x_r1_1)) rfl ?_
        refine XS.aloadN X10305.here hx rfl (hb hby d10_24) rfl rfl ?_
        show Sp p e below T10305 (mkF m 25 (lt25 r0 r1 r1 (3 : Int32) ((0 : Int32) + (1 : Int32)) x_r1_1) [(.ref r0)]) _
        refine st10309 _ ?_
        show Sp p e below T10309 (mkF m 28 (lt25 r0 r1 r1 (3 : Int32) ((0 : Int32) + (1 : Int32)) x_r1_1) [(.ref r0_f0)]) _
        refine XS.iload X10309.here hx rfl (hb hby d10_28) rfl ?_
        show Sp p e below T10309 (mkF m 30 (lt25 r0 r1 r1 (3 : Int32) ((0 : Int32) + (1 : Int32)) x_r1_1) [(.int x_r1_1), (.ref r0_f0)]) _
        refine st10310.trans ?_
        show Sp p e below T10310 (mkF m 33 (lt25 r0 r1 r1 (3 : Int32) ((0 : Int32) + (1 : Int32)) x_r1_1) [(.int (sp11x1 x_r1_1 x_r0_f0_f4 x_r0_f0_f3_F))]) _
        exact kt
      by_cases hc10312 : (sp11x1 x_r1_1 x_r0_f0_f4 x_r0_f0_f3_F) = (0 : Int32)
      · obtain ⟨T10313, X10313, e10313, st10313⟩ := getF X10310 hx hZ hown (host := "") (Or.inl (hw _ (tk 31 rfl))) Via.refl e10310 F_permitted_r0 (g := (mkF m 41 (lt25 r0 r1 r1 (3 : Int32) ((0 : Int32) + (1 : Int32)) x_r1_1) [(.ref r0)])) rfl rfl (hb hby d10_41)
        obtain ⟨cq10314, kq10314, q10314a, q10314b, q10314c⟩ := isOf hZ e10313 E_r0_f1
        obtain ⟨_, _, ⟨T10314, L10314, k10314, n10314⟩, -, X10314, ⟨Lc10314, hQ10314, l10314, y10314, z10314⟩, st10314⟩ := X10313.virtualBack hx (y := Y37) (z := Y37) hown (mvT hZ (hw _ (tk 63 rfl))) (mvT hZ (hw _ (tk 64 rfl))) (notFace_of_selects (args := #[]) (mvT hZ (hw _ (tk 66 rfl)))) (mvT hZ (hw _ (tk 66 rfl))) (mvT hZ (hw _ (tk 65 rfl))) (by decide) (backOf (W := 0) (rm11x1 l Z a0 hw hv [] w_1 w_2 hS0 r0_f1 x_r1_1 r0_f1_f3 x_r0_f1_f4 k_r0_f1_f3 x_r0_f1_f3_n x_r0_f1_f3_F h0 n0 O0 g_r0_f1 g_r0_f1_f3 E_r0_f1 F_words_r0_f1 F_wordsInUse_r0_f1 V_r0_f1_f3 ne_r0_f1_r0_f1_f3 as2 as3 as6) hZ (hw _ (tk 67 rfl)) (hw _ (tk 11 rfl)) (by decide) (by decide)) q10314a q10314c (g := (mkF m 46 (lt25 r0 r1 r1 (3 : Int32) ((0 : Int32) + (1 : Int32)) x_r1_1) [(.int x_r1_1), (.ref r0_f1)])) rfl (by rw [hml]; rfl) (Steps.refl _) (argsL := [(.int x_r1_1)]) (rest := []) (lenOf pd_6 rfl) rfl (by show 2 * 0 + _ ≤ _; exact Nat.le_of_eq rfl) (hb hby d10_46) (fun _ _ => ⟨rfl, e10313, (by decide : 0 + 0 ≤ _), (by decide : 0 + 0 ≤ _)⟩)
        dsimp only [Pt.U, Pt.locs, Pt.cells, Pt.slots] at X10314 l10314 y10314 z10314 st10314 hQ10314
        subst l10314 y10314 z10314
        obtain ⟨rv10314, N10314q, e10314⟩ := hQ10314
        subst rv10314
        have N10314 := Fr.app N10310 N10314q
        have pre10315 : Cm p e below E0 (T10314.setTop (mkF m 49 (lt25 r0 r1 r1 (3 : Int32) ((0 : Int32) + (1 : Int32)) x_r1_1) [(.int (sp11x1 x_r1_1 x_r0_f1_f4 x_r0_f1_f3_F))])) := fun t kt => by
          refine pre10311 t ?_
          show Sp p e below T10310 (mkF m 33 (lt25 r0 r1 r1 (3 : Int32) ((0 : Int32) + (1 : Int32)) x_r1_1) [(.int (sp11x1 x_r1_1 x_r0_f0_f4 x_r0_f0_f3_F))]) _
          refine XS.ifYes X10310.here hx rfl (pc0 := 33) (pc' := 40) rfl (hb hby d10_33) rfl ((if0 _ _).trans (teq hc10312).1) (by decide) (by decide) ?_
          show Sp p e below T10310 (mkF m 40 (lt25 r0 r1 r1 (3 : Int32) ((0 : Int32) + (1 : Int32)) x_r1_1) []) _
          refine XS.aloadN X10310.here hx rfl (hb hby d10_40) rfl rfl ?_
          show Sp p e below T10310 (mkF m 41 (lt25 r0 r1 r1 (3 : Int32) ((0 : Int32) + (1 : Int32)) x_r1_1) [(.ref r0)]) _
          refine st10313 _ ?_
          show Sp p e below T10313 (mkF m 44 (lt25 r0 r1 r1 (3 : Int32) ((0 : Int32) + (1 : Int32)) x_r1_1) [(.ref r0_f1)]) _
          refine XS.iload X10313.here hx rfl (hb hby d10_44) rfl ?_
          show Sp p e below T10313 (mkF m 46 (lt25 r0 r1 r1 (3 : Int32) ((0 : Int32) + (1 : Int32)) x_r1_1) [(.int x_r1_1), (.ref r0_f1)]) _
          refine st10314.trans ?_
          show Sp p e below T10314 (mkF m 49 (lt25 r0 r1 r1 (3 : Int32) ((0 : Int32) + (1 : Int32)) x_r1_1) [(.int (sp11x1 x_r1_1 x_r0_f1_f4 x_r0_f1_f3_F))]) _
          exact kt
        by_cases hc10316 : (sp11x1 x_r1_1 x_r0_f1_f4 x_r0_f1_f3_F) = (0 : Int32)
        · obtain ⟨cl10317, Ar10317, qa10317, Sa10317, Ma10317, Ha10317, Ga10317⟩ := id V_r1
          have hin10317 : ¬ ((((0 : Int32) + (1 : Int32)) + (1 : Int32)) < 0 ∨ cl10317.slots.size ≤ ((((0 : Int32) + (1 : Int32)) + (1 : Int32))).toNatClampNeg) := by  exact inb_of Sa10317 ⟨by decide, by decide⟩
          have hat10317 : cl10317.slots[((((0 : Int32) + (1 : Int32)) + (1 : Int32))).toNatClampNeg]? = some (.int x_r1_2) := Has.at Ha10317 hin10317 (by rfl)
          obtain ⟨T10318, X10318, e10318, st10318⟩ := getF X10314 hx hZ hown (host := "") (Or.inl (hw _ (tk 33 rfl))) Via.refl e10314 F_denied_r0 (g := (mkF m 25 (lt25 r0 r1 r1 (3 : Int32) (((0 : Int32) + (1 : Int32)) + (1 : Int32)) x_r1_2) [(.ref r0)])) rfl rfl (hb hby d10_25)
          obtain ⟨cq10319, kq10319, q10319a, q10319b, q10319c⟩ := isOf hZ e10318 E_r0_f0
          obtain ⟨_, _, ⟨T10319, L10319, k10319, n10319⟩, -, X10319, ⟨Lc10319, hQ10319, l10319, y10319, z10319⟩, st10319⟩ := X10318.virtualBack hx (y := Y37) (z := Y37) hown (mvT hZ (hw _ (tk 63 rfl))) (mvT hZ (hw _ (tk 64 rfl))) (notFace_of_selects (args := #[]) (mvT hZ (hw _ (tk 66 rfl)))) (mvT hZ (hw _ (tk 66 rfl))) (mvT hZ (hw _ (tk 65 rfl))) (by decide) (backOf (W := 0) (rm11x1 l Z a0 hw hv [] w_1 w_2 hS0 r0_f0 x_r1_2 r0_f0_f3 x_r0_f0_f4 k_r0_f0_f3 x_r0_f0_f3_n x_r0_f0_f3_F h0 n0 O0 g_r0_f0 g_r0_f0_f3 E_r0_f0 F_words_r0_f0 F_wordsInUse_r0_f0 V_r0_f0_f3 ne_r0_f0_r0_f0_f3 as4 as5 as7) hZ (hw _ (tk 67 rfl)) (hw _ (tk 11 rfl)) (by decide) (by decide)) q10319a q10319c (g := (mkF m 30 (lt25 r0 r1 r1 (3 : Int32) (((0 : Int32) + (1 : Int32)) + (1 : Int32)) x_r1_2) [(.int x_r1_2), (.ref r0_f0)])) rfl (by rw [hml]; rfl) (Steps.refl _) (argsL := [(.int x_r1_2)]) (rest := []) (lenOf pd_6 rfl) rfl (by show 2 * 0 + _ ≤ _; exact Nat.le_of_eq rfl) (hb hby d10_30) (fun _ _ => ⟨rfl, e10318, (by decide : 0 + 0 ≤ _), (by decide : 0 + 0 ≤ _)⟩)
          dsimp only [Pt.U, Pt.locs, Pt.cells, Pt.slots] at X10319 l10319 y10319 z10319 st10319 hQ10319
          subst l10319 y10319 z10319
          obtain ⟨rv10319, N10319q, e10319⟩ := hQ10319
          subst rv10319
          have N10319 := Fr.app N10314 N10319q
          have pre10320 : Cm p e below E0 (T10319.setTop (mkF m 33 (lt25 r0 r1 r1 (3 : Int32) (((0 : Int32) + (1 : Int32)) + (1 : Int32)) x_r1_2) [(.int (sp11x1 x_r1_2 x_r0_f0_f4 x_r0_f0_f3_F))])) := fun t kt => by
            refine pre10315 t ?_
            show Sp p e below T10314 (mkF m 49 (lt25 r0 r1 r1 (3 : Int32) ((0 : Int32) + (1 : Int32)) x_r1_1) [(.int (sp11x1 x_r1_1 x_r0_f1_f4 x_r0_f1_f3_F))]) _
            refine XS.ifYes X10314.here hx rfl (pc0 := 49) (pc' := 56) rfl (hb hby d10_49) rfl ((if0 _ _).trans (teq hc10316).1) (by decide) (by decide) ?_
            show Sp p e below T10314 (mkF m 56 (lt25 r0 r1 r1 (3 : Int32) ((0 : Int32) + (1 : Int32)) x_r1_1) []) _
            refine XS.iinc X10314.here hx rfl (hb hby d10_56) rfl (l' := (lt25 r0 r1 r1 (3 : Int32) (((0 : Int32) + (1 : Int32)) + (1 : Int32)) x_r1_1)) rfl ?_
            show Sp p e below T10314 (mkF m 59 (lt25 r0 r1 r1 (3 : Int32) (((0 : Int32) + (1 : Int32)) + (1 : Int32)) x_r1_1) []) _
            refine XS.goto X10314.here hx rfl (pc0 := 59) (pc' := 11) rfl (hb hby d10_59) (by decide) (by decide) ?_
            show Sp p e below T10314 (mkF m 11 (lt25 r0 r1 r1 (3 : Int32) (((0 : Int32) + (1 : Int32)) + (1 : Int32)) x_r1_1) []) _
            refine XS.iload X10314.here hx rfl (hb hby d10_11) rfl ?_
            refine XS.iload X10314.here hx rfl (hb hby d10_13) rfl ?_
            show Sp p e below T10314 (mkF m 15 (lt25 r0 r1 r1 (3 : Int32) (((0 : Int32) + (1 : Int32)) + (1 : Int32)) x_r1_1) [(.int (3 : Int32)), (.int (((0 : Int32) + (1 : Int32)) + (1 : Int32)))]) _
            refine XS.icmpNo X10314.here hx rfl (hb hby d10_15) rfl (tlt (by decide : ((((0 : Int32) + (1 : Int32)) + (1 : Int32)) < (3 : Int32)))).2.1 ?_
            show Sp p e below T10314 (mkF m 18 (lt25 r0 r1 r1 (3 : Int32) (((0 : Int32) + (1 : Int32)) + (1 : Int32)) x_r1_1) []) _
            refine XS.aloadN X10314.here hx rfl (hb hby d10_18) rfl rfl ?_
            refine XS.iload X10314.here hx rfl (hb hby d10_19) rfl ?_
            show Sp p e below T10314 (mkF m 21 (lt25 r0 r1 r1 (3 : Int32) (((0 : Int32) + (1 : Int32)) + (1 : Int32)) x_r1_1) [(.int (((0 : Int32) + (1 : Int32)) + (1 : Int32))), (.ref r1)]) _
            refine X10314.iaload hx (j := (((0 : Int32) + (1 : Int32)) + (1 : Int32))) (v := (.int x_r1_2)) (by rw [e10314]; exact Ar10317.1) (State.isArrayOf_alike hZ.alike Ar10317.2.1) Ar10317.2.2 hin10317 hat10317 (g := (mkF m 21 (lt25 r0 r1 r1 (3 : Int32) (((0 : Int32) + (1 : Int32)) + (1 : Int32)) x_r1_1) [(.int (((0 : Int32) + (1 : Int32)) + (1 : Int32))), (.ref r1)])) rfl rfl (hb hby d10_21) _ ?_
            show Sp p e below T10314 (mkF m 22 (lt25 r0 r1 r1 (3 : Int32) (((0 : Int32) + (1 : Int32)) + (1 : Int32)) x_r1_1) [(.int x_r1_2)]) _
            refine XS.istore X10314.here hx rfl (hb hby d10_22) rfl (l' := (lt25 r0 r1 r1 (3 : Int32) (((0 : Int32) + (1 : Int32)) + (1 : Int32)) x_r1_2)) rfl ?_
            refine XS.aloadN X10314.here hx rfl (hb hby d10_24) rfl rfl ?_
            show Sp p e below T10314 (mkF m 25 (lt25 r0 r1 r1 (3 : Int32) (((0 : Int32) + (1 : Int32)) + (1 : Int32)) x_r1_2) [(.ref r0)]) _
            refine st10318 _ ?_
            show Sp p e below T10318 (mkF m 28 (lt25 r0 r1 r1 (3 : Int32) (((0 : Int32) + (1 : Int32)) + (1 : Int32)) x_r1_2) [(.ref r0_f0)]) _
            refine XS.iload X10318.here hx rfl (hb hby d10_28) rfl ?_
            show Sp p e below T10318 (mkF m 30 (lt25 r0 r1 r1 (3 : Int32) (((0 : Int32) + (1 : Int32)) + (1 : Int32)) x_r1_2) [(.int x_r1_2), (.ref r0_f0)]) _
            refine st10319.trans ?_
            show Sp p e below T10319 (mkF m 33 (lt25 r0 r1 r1 (3 : Int32) (((0 : Int32) + (1 : Int32)) + (1 : Int32)) x_r1_2) [(.int (sp11x1 x_r1_2 x_r0_f0_f4 x_r0_f0_f3_F))]) _
            exact kt
          by_cases hc10321 : (sp11x1 x_r1_2 x_r0_f0_f4 x_r0_f0_f3_F) = (0 : Int32)
          · obtain ⟨T10322, X10322, e10322, st10322⟩ := getF X10319 hx hZ hown (host := "") (Or.inl (hw _ (tk 31 rfl))) Via.refl e10319 F_permitted_r0 (g := (mkF m 41 (lt25 r0 r1 r1 (3 : Int32) (((0 : Int32) + (1 : Int32)) + (1 : Int32)) x_r1_2) [(.ref r0)])) rfl rfl (hb hby d10_41)
            obtain ⟨cq10323, kq10323, q10323a, q10323b, q10323c⟩ := isOf hZ e10322 E_r0_f1
            obtain ⟨_, _, ⟨T10323, L10323, k10323, n10323⟩, -, X10323, ⟨Lc10323, hQ10323, l10323, y10323, z10323⟩, st10323⟩ := X10322.virtualBack hx (y := Y37) (z := Y37) hown (mvT hZ (hw _ (tk 63 rfl))) (mvT hZ (hw _ (tk 64 rfl))) (notFace_of_selects (args := #[]) (mvT hZ (hw _ (tk 66 rfl)))) (mvT hZ (hw _ (tk 66 rfl))) (mvT hZ (hw _ (tk 65 rfl))) (by decide) (backOf (W := 0) (rm11x1 l Z a0 hw hv [] w_1 w_2 hS0 r0_f1 x_r1_2 r0_f1_f3 x_r0_f1_f4 k_r0_f1_f3 x_r0_f1_f3_n x_r0_f1_f3_F h0 n0 O0 g_r0_f1 g_r0_f1_f3 E_r0_f1 F_words_r0_f1 F_wordsInUse_r0_f1 V_r0_f1_f3 ne_r0_f1_r0_f1_f3 as4 as5 as6) hZ (hw _ (tk 67 rfl)) (hw _ (tk 11 rfl)) (by decide) (by decide)) q10323a q10323c (g := (mkF m 46 (lt25 r0 r1 r1 (3 : Int32) (((0 : Int32) + (1 : Int32)) + (1 : Int32)) x_r1_2) [(.int x_r1_2), (.ref r0_f1)])) rfl (by rw [hml]; rfl) (Steps.refl _) (argsL := [(.int x_r1_2)]) (rest := []) (lenOf pd_6 rfl) rfl (by show 2 * 0 + _ ≤ _; exact Nat.le_of_eq rfl) (hb hby d10_46) (fun _ _ => ⟨rfl, e10322, (by decide : 0 + 0 ≤ _), (by decide : 0 + 0 ≤ _)⟩)
            dsimp only [Pt.U, Pt.locs, Pt.cells, Pt.slots] at X10323 l10323 y10323 z10323 st10323 hQ10323
            subst l10323 y10323 z10323
            obtain ⟨rv10323, N10323q, e10323⟩ := hQ10323
            subst rv10323
            have N10323 := Fr.app N10319 N10323q
            have pre10324 : Cm p e below E0 (T10323.setTop (mkF m 49 (lt25 r0 r1 r1 (3 : Int32) (((0 : Int32) + (1 : Int32)) + (1 : Int32)) x_r1_2) [(.int (sp11x1 x_r1_2 x_r0_f1_f4 x_r0_f1_f3_F))])) := fun t kt => by
              refine pre10320 t ?_
              show Sp p e below T10319 (mkF m 33 (lt25 r0 r1 r1 (3 : Int32) (((0 : Int32) + (1 : Int32)) + (1 : Int32)) x_r1_2) [(.int (sp11x1 x_r1_2 x_r0_f0_f4 x_r0_f0_f3_F))]) _
              refine XS.ifYes X10319.here hx rfl (pc0 := 33) (pc' := 40) rfl (hb hby d10_33) rfl ((if0 _ _).trans (teq hc10321).1) (by decide) (by decide) ?_
              show Sp p e below T10319 (mkF m 40 (lt25 r0 r1 r1 (3 : Int32) (((0 : Int32) + (1 : Int32)) + (1 : Int32)) x_r1_2) []) _
              refine XS.aloadN X10319.here hx rfl (hb hby d10_40) rfl rfl ?_
              show Sp p e below T10319 (mkF m 41 (lt25 r0 r1 r1 (3 : Int32) (((0 : Int32) + (1 : Int32)) + (1 : Int32)) x_r1_2) [(.ref r0)]) _
              refine st10322 _ ?_
              show Sp p e below T10322 (mkF m 44 (lt25 r0 r1 r1 (3 : Int32) (((0 : Int32) + (1 : Int32)) + (1 : Int32)) x_r1_2) [(.ref r0_f1)]) _
              refine XS.iload X10322.here hx rfl (hb hby d10_44) rfl ?_
              show Sp p e below T10322 (mkF m 46 (lt25 r0 r1 r1 (3 : Int32) (((0 : Int32) + (1 : Int32)) + (1 : Int32)) x_r1_2) [(.int x_r1_2), (.ref r0_f1)]) _
              refine st10323.trans ?_
              show Sp p e below T10323 (mkF m 49 (lt25 r0 r1 r1 (3 : Int32) (((0 : Int32) + (1 : Int32)) + (1 : Int32)) x_r1_2) [(.int (sp11x1 x_r1_2 x_r0_f1_f4 x_r0_f1_f3_F))]) _
              exact kt
            by_cases hc10325 : (sp11x1 x_r1_2 x_r0_f1_f4 x_r0_f1_f3_F) = (0 : Int32)
            · obtain ⟨fs, hr, hrun, hended, hW, hsame⟩ := X10323.leave (v := some .null) (fun h => by rw [Bd.returns] at h; cases h)
              refine ⟨_, _, pre10324 _ ?_, hrun, hended, _, _, rfl, ?_, ⟨_, rfl⟩, hW, hsame.mono (by decide) (by decide)⟩
              · show Sp p e below T10323 (mkF m 49 (lt25 r0 r1 r1 (3 : Int32) (((0 : Int32) + (1 : Int32)) + (1 : Int32)) x_r1_2) [(.int (sp11x1 x_r1_2 x_r0_f1_f4 x_r0_f1_f3_F))]) _
                refine XS.ifYes X10323.here hx rfl (pc0 := 49) (pc' := 56) rfl (hb hby d10_49) rfl ((if0 _ _).trans (teq hc10325).1) (by decide) (by decide) ?_
                show Sp p e below T10323 (mkF m 56 (lt25 r0 r1 r1 (3 : Int32) (((0 : Int32) + (1 : Int32)) + (1 : Int32)) x_r1_2) []) _
                refine XS.iinc X10323.here hx rfl (hb hby d10_56) rfl (l' := (lt25 r0 r1 r1 (3 : Int32) ((((0 : Int32) + (1 : Int32)) + (1 : Int32)) + (1 : Int32)) x_r1_2)) rfl ?_
                show Sp p e below T10323 (mkF m 59 (lt25 r0 r1 r1 (3 : Int32) ((((0 : Int32) + (1 : Int32)) + (1 : Int32)) + (1 : Int32)) x_r1_2) []) _
                refine XS.goto X10323.here hx rfl (pc0 := 59) (pc' := 11) rfl (hb hby d10_59) (by decide) (by decide) ?_
                show Sp p e below T10323 (mkF m 11 (lt25 r0 r1 r1 (3 : Int32) ((((0 : Int32) + (1 : Int32)) + (1 : Int32)) + (1 : Int32)) x_r1_2) []) _
                refine XS.iload X10323.here hx rfl (hb hby d10_11) rfl ?_
                refine XS.iload X10323.here hx rfl (hb hby d10_13) rfl ?_
                show Sp p e below T10323 (mkF m 15 (lt25 r0 r1 r1 (3 : Int32) ((((0 : Int32) + (1 : Int32)) + (1 : Int32)) + (1 : Int32)) x_r1_2) [(.int (3 : Int32)), (.int ((((0 : Int32) + (1 : Int32)) + (1 : Int32)) + (1 : Int32)))]) _
                refine XS.icmpYes X10323.here hx rfl (pc0 := 15) (pc' := 62) rfl (hb hby d10_15) rfl (flt (by decide : ¬ (((((0 : Int32) + (1 : Int32)) + (1 : Int32)) + (1 : Int32)) < (3 : Int32)))).2.1 (by decide) (by decide) ?_
                show Sp p e below T10323 (mkF m 62 (lt25 r0 r1 r1 (3 : Int32) ((((0 : Int32) + (1 : Int32)) + (1 : Int32)) + (1 : Int32)) x_r1_2) []) _
                refine XS.aloadN X10323.here hx rfl (hb hby d10_62) rfl rfl ?_
                show Sp p e below T10323 (mkF m 63 (lt25 r0 r1 r1 (3 : Int32) ((((0 : Int32) + (1 : Int32)) + (1 : Int32)) + (1 : Int32)) x_r1_2) [.null]) _
                jvm_step X10323.here [X10323.here.top, hx, (hb hby d10_63), X10323.method', Bd.returns, Value.isRef, FieldType.isReference]
                first | (intro acts; rw [hr _ acts rfl rfl rfl]) | rw [hr _ _ rfl rfl rfl]
                exact Steps.refl _
              · show Q10x4 Z w_1 w_2 r0 r1 r0_f0 r0_f0_f3 r0_f1 r0_f1_f3 x_r0_f0_f4 k_r0_f0_f3 x_r0_f0_f3_n x_r0_f0_f3_F x_r0_f1_f4 k_r0_f1_f3 x_r0_f1_f3_n x_r0_f1_f3_F k_r1 x_r1_0 x_r1_1 x_r1_2 h0 n0 _ T10323.heap _
                rw [e10323]
                exact ⟨by unfold sp10x4; rw [if_pos hc10303, if_pos hc10307, if_pos hc10312, if_pos hc10316, if_pos hc10321, if_pos hc10325], N10323, rfl⟩
            · obtain ⟨T10326, X10326, e10326, st10326⟩ := getS2 X10323 hx hZ hown (host := "") (Or.inl (hw _ (tk 92 rfl))) Via.refl e10323 (S_2.ext O0.2) (g := (mkF m 52 (lt25 r0 r1 r1 (3 : Int32) (((0 : Int32) + (1 : Int32)) + (1 : Int32)) x_r1_2) [])) rfl (hb hby d10_52)
              obtain ⟨fs, hr, hrun, hended, hW, hsame⟩ := X10326.leave (v := some (.ref w_2)) (fun h => by rw [Bd.returns] at h; cases h)
              refine ⟨_, _, pre10324 _ ?_, hrun, hended, _, _, rfl, ?_, ⟨_, rfl⟩, hW, hsame.mono (by decide) (by decide)⟩
              · show Sp p e below T10323 (mkF m 49 (lt25 r0 r1 r1 (3 : Int32) (((0 : Int32) + (1 : Int32)) + (1 : Int32)) x_r1_2) [(.int (sp11x1 x_r1_2 x_r0_f1_f4 x_r0_f1_f3_F))]) _
                refine XS.ifNo X10323.here hx rfl (hb hby d10_49) rfl ((if0 _ _).trans (feq hc10325).1) ?_
                show Sp p e below T10323 (mkF m 52 (lt25 r0 r1 r1 (3 : Int32) (((0 : Int32) + (1 : Int32)) + (1 : Int32)) x_r1_2) []) _
                refine st10326 _ ?_
                show Sp p e below T10326 (mkF m 55 (lt25 r0 r1 r1 (3 : Int32) (((0 : Int32) + (1 : Int32)) + (1 : Int32)) x_r1_2) [(.ref w_2)]) _
                refine XS.astoreN X10326.here hx rfl (hb hby d10_55) rfl rfl (l' := (lt26 r0 r1 w_2 r1 (3 : Int32) (((0 : Int32) + (1 : Int32)) + (1 : Int32)) x_r1_2)) rfl ?_
                refine XS.iinc X10326.here hx rfl (hb hby d10_56) rfl (l' := (lt26 r0 r1 w_2 r1 (3 : Int32) ((((0 : Int32) + (1 : Int32)) + (1 : Int32)) + (1 : Int32)) x_r1_2)) rfl ?_
                show Sp p e below T10326 (mkF m 59 (lt26 r0 r1 w_2 r1 (3 : Int32) ((((0 : Int32) + (1 : Int32)) + (1 : Int32)) + (1 : Int32)) x_r1_2) []) _
                refine XS.goto X10326.here hx rfl (pc0 := 59) (pc' := 11) rfl (hb hby d10_59) (by decide) (by decide) ?_
                show Sp p e below T10326 (mkF m 11 (lt26 r0 r1 w_2 r1 (3 : Int32) ((((0 : Int32) + (1 : Int32)) + (1 : Int32)) + (1 : Int32)) x_r1_2) []) _
                refine XS.iload X10326.here hx rfl (hb hby d10_11) rfl ?_
                refine XS.iload X10326.here hx rfl (hb hby d10_13) rfl ?_
                show Sp p e below T10326 (mkF m 15 (lt26 r0 r1 w_2 r1 (3 : Int32) ((((0 : Int32) + (1 : Int32)) + (1 : Int32)) + (1 : Int32)) x_r1_2) [(.int (3 : Int32)), (.int ((((0 : Int32) + (1 : Int32)) + (1 : Int32)) + (1 : Int32)))]) _
                refine XS.icmpYes X10326.here hx rfl (pc0 := 15) (pc' := 62) rfl (hb hby d10_15) rfl (flt (by decide : ¬ (((((0 : Int32) + (1 : Int32)) + (1 : Int32)) + (1 : Int32)) < (3 : Int32)))).2.1 (by decide) (by decide) ?_
                show Sp p e below T10326 (mkF m 62 (lt26 r0 r1 w_2 r1 (3 : Int32) ((((0 : Int32) + (1 : Int32)) + (1 : Int32)) + (1 : Int32)) x_r1_2) []) _
                refine XS.aloadN X10326.here hx rfl (hb hby d10_62) rfl rfl ?_
                show Sp p e below T10326 (mkF m 63 (lt26 r0 r1 w_2 r1 (3 : Int32) ((((0 : Int32) + (1 : Int32)) + (1 : Int32)) + (1 : Int32)) x_r1_2) [(.ref w_2)]) _
                jvm_step X10326.here [X10326.here.top, hx, (hb hby d10_63), X10326.method', Bd.returns, Value.isRef, FieldType.isReference]
                first | (intro acts; rw [hr _ acts rfl rfl rfl]) | rw [hr _ _ rfl rfl rfl]
                exact Steps.refl _
              · show Q10x4 Z w_1 w_2 r0 r1 r0_f0 r0_f0_f3 r0_f1 r0_f1_f3 x_r0_f0_f4 k_r0_f0_f3 x_r0_f0_f3_n x_r0_f0_f3_F x_r0_f1_f4 k_r0_f1_f3 x_r0_f1_f3_n x_r0_f1_f3_F k_r1 x_r1_0 x_r1_1 x_r1_2 h0 n0 _ T10326.heap _
                rw [e10326]
                exact ⟨by unfold sp10x4; rw [if_pos hc10303, if_pos hc10307, if_pos hc10312, if_pos hc10316, if_pos hc10321, if_neg hc10325], N10323, rfl⟩
          · obtain ⟨T10327, X10327, e10327, st10327⟩ := getS2 X10319 hx hZ hown (host := "") (Or.inl (hw _ (tk 88 rfl))) Via.refl e10319 (S_1.ext O0.2) (g := (mkF m 36 (lt25 r0 r1 r1 (3 : Int32) (((0 : Int32) + (1 : Int32)) + (1 : Int32)) x_r1_2) [])) rfl (hb hby d10_36)
            obtain ⟨fs, hr, hrun, hended, hW, hsame⟩ := X10327.leave (v := some (.ref w_1)) (fun h => by rw [Bd.returns] at h; cases h)
            refine ⟨_, _, pre10320 _ ?_, hrun, hended, _, _, rfl, ?_, ⟨_, rfl⟩, hW, hsame.mono (by decide) (by decide)⟩
            · show Sp p e below T10319 (mkF m 33 (lt25 r0 r1 r1 (3 : Int32) (((0 : Int32) + (1 : Int32)) + (1 : Int32)) x_r1_2) [(.int (sp11x1 x_r1_2 x_r0_f0_f4 x_r0_f0_f3_F))]) _
              refine XS.ifNo X10319.here hx rfl (hb hby d10_33) rfl ((if0 _ _).trans (feq hc10321).1) ?_
              show Sp p e below T10319 (mkF m 36 (lt25 r0 r1 r1 (3 : Int32) (((0 : Int32) + (1 : Int32)) + (1 : Int32)) x_r1_2) []) _
              refine st10327 _ ?_
              show Sp p e below T10327 (mkF m 39 (lt25 r0 r1 r1 (3 : Int32) (((0 : Int32) + (1 : Int32)) + (1 : Int32)) x_r1_2) [(.ref w_1)]) _
              jvm_step X10327.here [X10327.here.top, hx, (hb hby d10_39), X10327.method', Bd.returns, Value.isRef, FieldType.isReference]
              first | (intro acts; rw [hr _ acts rfl rfl rfl]) | rw [hr _ _ rfl rfl rfl]
              exact Steps.refl _
            · show Q10x4 Z w_1 w_2 r0 r1 r0_f0 r0_f0_f3 r0_f1 r0_f1_f3 x_r0_f0_f4 k_r0_f0_f3 x_r0_f0_f3_n x_r0_f0_f3_F x_r0_f1_f4 k_r0_f1_f3 x_r0_f1_f3_n x_r0_f1_f3_F k_r1 x_r1_0 x_r1_1 x_r1_2 h0 n0 _ T10327.heap _
              rw [e10327]
              exact ⟨by unfold sp10x4; rw [if_pos hc10303, if_pos hc10307, if_pos hc10312, if_pos hc10316, if_neg hc10321], N10319, rfl⟩
        · obtain ⟨T10328, X10328, e10328, st10328⟩ := getS2 X10314 hx hZ hown (host := "") (Or.inl (hw _ (tk 92 rfl))) Via.refl e10314 (S_2.ext O0.2) (g := (mkF m 52 (lt25 r0 r1 r1 (3 : Int32) ((0 : Int32) + (1 : Int32)) x_r1_1) [])) rfl (hb hby d10_52)
          obtain ⟨cl10329, Ar10329, qa10329, Sa10329, Ma10329, Ha10329, Ga10329⟩ := id V_r1
          have hin10329 : ¬ ((((0 : Int32) + (1 : Int32)) + (1 : Int32)) < 0 ∨ cl10329.slots.size ≤ ((((0 : Int32) + (1 : Int32)) + (1 : Int32))).toNatClampNeg) := by  exact inb_of Sa10329 ⟨by decide, by decide⟩
          have hat10329 : cl10329.slots[((((0 : Int32) + (1 : Int32)) + (1 : Int32))).toNatClampNeg]? = some (.int x_r1_2) := Has.at Ha10329 hin10329 (by rfl)
          obtain ⟨T10330, X10330, e10330, st10330⟩ := getF X10328 hx hZ hown (host := "") (Or.inl (hw _ (tk 33 rfl))) Via.refl e10328 F_denied_r0 (g := (mkF m 25 (lt26 r0 r1 w_2 r1 (3 : Int32) (((0 : Int32) + (1 : Int32)) + (1 : Int32)) x_r1_2) [(.ref r0)])) rfl rfl (hb hby d10_25)
          obtain ⟨cq10331, kq10331, q10331a, q10331b, q10331c⟩ := isOf hZ e10330 E_r0_f0
          obtain ⟨_, _, ⟨T10331, L10331, k10331, n10331⟩, -, X10331, ⟨Lc10331, hQ10331, l10331, y10331, z10331⟩, st10331⟩ := X10330.virtualBack hx (y := Y37) (z := Y37) hown (mvT hZ (hw _ (tk 63 rfl))) (mvT hZ (hw _ (tk 64 rfl))) (notFace_of_selects (args := #[]) (mvT hZ (hw _ (tk 66 rfl)))) (mvT hZ (hw _ (tk 66 rfl))) (mvT hZ (hw _ (tk 65 rfl))) (by decide) (backOf (W := 0) (rm11x1 l Z a0 hw hv [] w_1 w_2 hS0 r0_f0 x_r1_2 r0_f0_f3 x_r0_f0_f4 k_r0_f0_f3 x_r0_f0_f3_n x_r0_f0_f3_F h0 n0 O0 g_r0_f0 g_r0_f0_f3 E_r0_f0 F_words_r0_f0 F_wordsInUse_r0_f0 V_r0_f0_f3 ne_r0_f0_r0_f0_f3 as4 as5 as7) hZ (hw _ (tk 67 rfl)) (hw _ (tk 11 rfl)) (by decide) (by decide)) q10331a q10331c (g := (mkF m 30 (lt26 r0 r1 w_2 r1 (3 : Int32) (((0 : Int32) + (1 : Int32)) + (1 : Int32)) x_r1_2) [(.int x_r1_2), (.ref r0_f0)])) rfl (by rw [hml]; rfl) (Steps.refl _) (argsL := [(.int x_r1_2)]) (rest := []) (lenOf pd_6 rfl) rfl (by show 2 * 0 + _ ≤ _; exact Nat.le_of_eq rfl) (hb hby d10_30) (fun _ _ => ⟨rfl, e10330, (by decide : 0 + 0 ≤ _), (by decide : 0 + 0 ≤ _)⟩)
          dsimp only [Pt.U, Pt.locs, Pt.cells, Pt.slots] at X10331 l10331 y10331 z10331 st10331 hQ10331
          subst l10331 y10331 z10331
          obtain ⟨rv10331, N10331q, e10331⟩ := hQ10331
          subst rv10331
          have N10331 := Fr.app N10314 N10331q
          have pre10332 : Cm p e below E0 (T10331.setTop (mkF m 33 (lt26 r0 r1 w_2 r1 (3 : Int32) (((0 : Int32) + (1 : Int32)) + (1 : Int32)) x_r1_2) [(.int (sp11x1 x_r1_2 x_r0_f0_f4 x_r0_f0_f3_F))])) := fun t kt => by
            refine pre10315 t ?_
            show Sp p e below T10314 (mkF m 49 (lt25 r0 r1 r1 (3 : Int32) ((0 : Int32) + (1 : Int32)) x_r1_1) [(.int (sp11x1 x_r1_1 x_r0_f1_f4 x_r0_f1_f3_F))]) _
            refine XS.ifNo X10314.here hx rfl (hb hby d10_49) rfl ((if0 _ _).trans (feq hc10316).1) ?_
            show Sp p e below T10314 (mkF m 52 (lt25 r0 r1 r1 (3 : Int32) ((0 : Int32) + (1 : Int32)) x_r1_1) []) _
            refine st10328 _ ?_
            show Sp p e below T10328 (mkF m 55 (lt25 r0 r1 r1 (3 : Int32) ((0 : Int32) + (1 : Int32)) x_r1_1) [(.ref w_2)]) _
            refine XS.astoreN X10328.here hx rfl (hb hby d10_55) rfl rfl (l' := (lt26 r0 r1 w_2 r1 (3 : Int32) ((0 : Int32) + (1 : Int32)) x_r1_1)) rfl ?_
            refine XS.iinc X10328.here hx rfl (hb hby d10_56) rfl (l' := (lt26 r0 r1 w_2 r1 (3 : Int32) (((0 : Int32) + (1 : Int32)) + (1 : Int32)) x_r1_1)) rfl ?_
            show Sp p e below T10328 (mkF m 59 (lt26 r0 r1 w_2 r1 (3 : Int32) (((0 : Int32) + (1 : Int32)) + (1 : Int32)) x_r1_1) []) _
            refine XS.goto X10328.here hx rfl (pc0 := 59) (pc' := 11) rfl (hb hby d10_59) (by decide) (by decide) ?_
            show Sp p e below T10328 (mkF m 11 (lt26 r0 r1 w_2 r1 (3 : Int32) (((0 : Int32) + (1 : Int32)) + (1 : Int32)) x_r1_1) []) _
            refine XS.iload X10328.here hx rfl (hb hby d10_11) rfl ?_
            refine XS.iload X10328.here hx rfl (hb hby d10_13) rfl ?_
            show Sp p e below T10328 (mkF m 15 (lt26 r0 r1 w_2 r1 (3 : Int32) (((0 : Int32) + (1 : Int32)) + (1 : Int32)) x_r1_1) [(.int (3 : Int32)), (.int (((0 : Int32) + (1 : Int32)) + (1 : Int32)))]) _
            refine XS.icmpNo X10328.here hx rfl (hb hby d10_15) rfl (tlt (by decide : ((((0 : Int32) + (1 : Int32)) + (1 : Int32)) < (3 : Int32)))).2.1 ?_
            show Sp p e below T10328 (mkF m 18 (lt26 r0 r1 w_2 r1 (3 : Int32) (((0 : Int32) + (1 : Int32)) + (1 : Int32)) x_r1_1) []) _
            refine XS.aloadN X10328.here hx rfl (hb hby d10_18) rfl rfl ?_
            refine XS.iload X10328.here hx rfl (hb hby d10_19) rfl ?_
            show Sp p e below T10328 (mkF m 21 (lt26 r0 r1 w_2 r1 (3 : Int32) (((0 : Int32) + (1 : Int32)) + (1 : Int32)) x_r1_1) [(.int (((0 : Int32) + (1 : Int32)) + (1 : Int32))), (.ref r1)]) _
            refine X10328.iaload hx (j := (((0 : Int32) + (1 : Int32)) + (1 : Int32))) (v := (.int x_r1_2)) (by rw [e10328]; exact Ar10329.1) (State.isArrayOf_alike hZ.alike Ar10329.2.1) Ar10329.2.2 hin10329 hat10329 (g := (mkF m 21 (lt26 r0 r1 w_2 r1 (3 : Int32) (((0 : Int32) + (1 : Int32)) + (1 : Int32)) x_r1_1) [(.int (((0 : Int32) + (1 : Int32)) + (1 : Int32))), (.ref r1)])) rfl rfl (hb hby d10_21) _ ?_
            show Sp p e below T10328 (mkF m 22 (lt26 r0 r1 w_2 r1 (3 : Int32) (((0 : Int32) + (1 : Int32)) + (1 : Int32)) x_r1_1) [(.int x_r1_2)]) _
            refine XS.istore X10328.here hx rfl (hb hby d10_22) rfl (l' := (lt26 r0 r1 w_2 r1 (3 : Int32) (((0 : Int32) + (1 : Int32)) + (1 : Int32)) x_r1_2)) rfl ?_
            refine XS.aloadN X10328.here hx rfl (hb hby d10_24) rfl rfl ?_
            show Sp p e below T10328 (mkF m 25 (lt26 r0 r1 w_2 r1 (3 : Int32) (((0 : Int32) + (1 : Int32)) + (1 : Int32)) x_r1_2) [(.ref r0)]) _
            refine st10330 _ ?_
            show Sp p e below T10330 (mkF m 28 (lt26 r0 r1 w_2 r1 (3 : Int32) (((0 : Int32) + (1 : Int32)) + (1 : Int32)) x_r1_2) [(.ref r0_f0)]) _
            refine XS.iload X10330.here hx rfl (hb hby d10_28) rfl ?_
            show Sp p e below T10330 (mkF m 30 (lt26 r0 r1 w_2 r1 (3 : Int32) (((0 : Int32) + (1 : Int32)) + (1 : Int32)) x_r1_2) [(.int x_r1_2), (.ref r0_f0)]) _
            refine st10331.trans ?_
            show Sp p e below T10331 (mkF m 33 (lt26 r0 r1 w_2 r1 (3 : Int32) (((0 : Int32) + (1 : Int32)) + (1 : Int32)) x_r1_2) [(.int (sp11x1 x_r1_2 x_r0_f0_f4 x_r0_f0_f3_F))]) _
            exact kt
          by_cases hc10333 : (sp11x1 x_r1_2 x_r0_f0_f4 x_r0_f0_f3_F) = (0 : Int32)
          · obtain ⟨T10334, X10334, e10334, st10334⟩ := getF X10331 hx hZ hown (host := "") (Or.inl (hw _ (tk 31 rfl))) Via.refl e10331 F_permitted_r0 (g := (mkF m 41 (lt26 r0 r1 w_2 r1 (3 : Int32) (((0 : Int32) + (1 : Int32)) + (1 : Int32)) x_r1_2) [(.ref r0)])) rfl rfl (hb hby d10_41)
            obtain ⟨cq10335, kq10335, q10335a, q10335b, q10335c⟩ := isOf hZ e10334 E_r0_f1
            obtain ⟨_, _, ⟨T10335, L10335, k10335, n10335⟩, -, X10335, ⟨Lc10335, hQ10335, l10335, y10335, z10335⟩, st10335⟩ := X10334.virtualBack hx (y := Y37) (z := Y37) hown (mvT hZ (hw _ (tk 63 rfl))) (mvT hZ (hw _ (tk 64 rfl))) (notFace_of_selects (args := #[]) (mvT hZ (hw _ (tk 66 rfl)))) (mvT hZ (hw _ (tk 66 rfl))) (mvT hZ (hw _ (tk 65 rfl))) (by decide) (backOf (W := 0) (rm11x1 l Z a0 hw hv [] w_1 w_2 hS0 r0_f1 x_r1_2 r0_f1_f3 x_r0_f1_f4 k_r0_f1_f3 x_r0_f1_f3_n x_r0_f1_f3_F h0 n0 O0 g_r0_f1 g_r0_f1_f3 E_r0_f1 F_words_r0_f1 F_wordsInUse_r0_f1 V_r0_f1_f3 ne_r0_f1_r0_f1_f3 as4 as5 as6) hZ (hw _ (tk 67 rfl)) (hw _ (tk 11 rfl)) (by decide) (by decide)) q10335a q10335c (g := (mkF m 46 (lt26 r0 r1 w_2 r1 (3 : Int32) (((0 : Int32) + (1 : Int32)) + (1 : Int32)) x_r1_2) [(.int x_r1_2), (.ref r0_f1)])) rfl (by rw [hml]; rfl) (Steps.refl _) (argsL := [(.int x_r1_2)]) (rest := []) (lenOf pd_6 rfl) rfl (by show 2 * 0 + _ ≤ _; exact Nat.le_of_eq rfl) (hb hby d10_46) (fun _ _ => ⟨rfl, e10334, (by decide : 0 + 0 ≤ _), (by decide : 0 + 0 ≤ _)⟩)
            dsimp only [Pt.U, Pt.locs, Pt.cells, Pt.slots] at X10335 l10335 y10335 z10335 st10335 hQ10335
            subst l10335 y10335 z10335
            obtain ⟨rv10335, N10335q, e10335⟩ := hQ10335
            subst rv10335
            have N10335 := Fr.app N10331 N10335q
            have pre10336 : Cm p e below E0 (T10335.setTop (mkF m 49 (lt26 r0 r1 w_2 r1 (3 : Int32) (((0 : Int32) + (1 : Int32)) + (1 : Int32)) x_r1_2) [(.int (sp11x1 x_r1_2 x_r0_f1_f4 x_r0_f1_f3_F))])) := fun t kt => by
              refine pre10332 t ?_
              show Sp p e below T10331 (mkF m 33 (lt26 r0 r1 w_2 r1 (3 : Int32) (((0 : Int32) + (1 : Int32)) + (1 : Int32)) x_r1_2) [(.int (sp11x1 x_r1_2 x_r0_f0_f4 x_r0_f0_f3_F))]) _
              refine XS.ifYes X10331.here hx rfl (pc0 := 33) (pc' := 40) rfl (hb hby d10_33) rfl ((if0 _ _).trans (teq hc10333).1) (by decide) (by decide) ?_
              show Sp p e below T10331 (mkF m 40 (lt26 r0 r1 w_2 r1 (3 : Int32) (((0 : Int32) + (1 : Int32)) + (1 : Int32)) x_r1_2) []) _
              refine XS.aloadN X10331.here hx rfl (hb hby d10_40) rfl rfl ?_
              show Sp p e below T10331 (mkF m 41 (lt26 r0 r1 w_2 r1 (3 : Int32) (((0 : Int32) + (1 : Int32)) + (1 : Int32)) x_r1_2) [(.ref r0)]) _
              refine st10334 _ ?_
              show Sp p e below T10334 (mkF m 44 (lt26 r0 r1 w_2 r1 (3 : Int32) (((0 : Int32) + (1 : Int32)) + (1 : Int32)) x_r1_2) [(.ref r0_f1)]) _
              refine XS.iload X10334.here hx rfl (hb hby d10_44) rfl ?_
              show Sp p e below T10334 (mkF m 46 (lt26 r0 r1 w_2 r1 (3 : Int32) (((0 : Int32) + (1 : Int32)) + (1 : Int32)) x_r1_2) [(.int x_r1_2), (.ref r0_f1)]) _
              refine st10335.trans ?_
              show Sp p e below T10335 (mkF m 49 (lt26 r0 r1 w_2 r1 (3 : Int32) (((0 : Int32) + (1 : Int32)) + (1 : Int32)) x_r1_2) [(.int (sp11x1 x_r1_2 x_r0_f1_f4 x_r0_f1_f3_F))]) _
              exact kt
            by_cases hc10337 : (sp11x1 x_r1_2 x_r0_f1_f4 x_r0_f1_f3_F) = (0 : Int32)
            · obtain ⟨fs, hr, hrun, hended, hW, hsame⟩ := X10335.leave (v := some (.ref w_2)) (fun h => by rw [Bd.returns] at h; cases h)
              refine ⟨_, _, pre10336 _ ?_, hrun, hended, _, _, rfl, ?_, ⟨_, rfl⟩, hW, hsame.mono (by decide) (by decide)⟩
              · show Sp p e below T10335 (mkF m 49 (lt26 r0 r1 w_2 r1 (3 : Int32) (((0 : Int32) + (1 : Int32)) + (1 : Int32)) x_r1_2) [(.int (sp11x1 x_r1_2 x_r0_f1_f4 x_r0_f1_f3_F))]) _
                refine XS.ifYes X10335.here hx rfl (pc0 := 49) (pc' := 56) rfl (hb hby d10_49) rfl ((if0 _ _).trans (teq hc10337).1) (by decide) (by decide) ?_
                show Sp p e below T10335 (mkF m 56 (lt26 r0 r1 w_2 r1 (3 : Int32) (((0 : Int32) + (1 : Int32)) + (1 : Int32)) x_r1_2) []) _
                refine XS.iinc X10335.here hx rfl (hb hby d10_56) rfl (l' := (lt26 r0 r1 w_2 r1 (3 : Int32) ((((0 : Int32) + (1 : Int32)) + (1 : Int32)) + (1 : Int32)) x_r1_2)) rfl ?_
                show Sp p e below T10335 (mkF m 59 (lt26 r0 r1 w_2 r1 (3 : Int32) ((((0 : Int32) + (1 : Int32)) + (1 : Int32)) + (1 : Int32)) x_r1_2) []) _
                refine XS.goto X10335.here hx rfl (pc0 := 59) (pc' := 11) rfl (hb hby d10_59) (by decide) (by decide) ?_
                show Sp p e below T10335 (mkF m 11 (lt26 r0 r1 w_2 r1 (3 : Int32) ((((0 : Int32) + (1 : Int32)) + (1 : Int32)) + (1 : Int32)) x_r1_2) []) _
                refine XS.iload X10335.here hx rfl (hb hby d10_11) rfl ?_
                refine XS.iload X10335.here hx rfl (hb hby d10_13) rfl ?_
                show Sp p e below T10335 (mkF m 15 (lt26 r0 r1 w_2 r1 (3 : Int32) ((((0 : Int32) + (1 : Int32)) + (1 : Int32)) + (1 : Int32)) x_r1_2) [(.int (3 : Int32)), (.int ((((0 : Int32) + (1 : Int32)) + (1 : Int32)) + (1 : Int32)))]) _
                refine XS.icmpYes X10335.here hx rfl (pc0 := 15) (pc' := 62) rfl (hb hby d10_15) rfl (flt (by decide : ¬ (((((0 : Int32) + (1 : Int32)) + (1 : Int32)) + (1 : Int32)) < (3 : Int32)))).2.1 (by decide) (by decide) ?_
                show Sp p e below T10335 (mkF m 62 (lt26 r0 r1 w_2 r1 (3 : Int32) ((((0 : Int32) + (1 : Int32)) + (1 : Int32)) + (1 : Int32)) x_r1_2) []) _
                refine XS.aloadN X10335.here hx rfl (hb hby d10_62) rfl rfl ?_
                show Sp p e below T10335 (mkF m 63 (lt26 r0 r1 w_2 r1 (3 : Int32) ((((0 : Int32) + (1 : Int32)) + (1 : Int32)) + (1 : Int32)) x_r1_2) [(.ref w_2)]) _
                jvm_step X10335.here [X10335.here.top, hx, (hb hby d10_63), X10335.method', Bd.returns, Value.isRef, FieldType.isReference]
                first | (intro acts; rw [hr _ acts rfl rfl rfl]) | rw [hr _ _ rfl rfl rfl]
                exact Steps.refl _
              · show Q10x4 Z w_1 w_2 r0 r1 r0_f0 r0_f0_f3 r0_f1 r0_f1_f3 x_r0_f0_f4 k_r0_f0_f3 x_r0_f0_f3_n x_r0_f0_f3_F x_r0_f1_f4 k_r0_f1_f3 x_r0_f1_f3_n x_r0_f1_f3_F k_r1 x_r1_0 x_r1_1 x_r1_2 h0 n0 _ T10335.heap _
                rw [e10335]
                exact ⟨by unfold sp10x4; rw [if_pos hc10303, if_pos hc10307, if_pos hc10312, if_neg hc10316, if_pos hc10333, if_pos hc10337], N10335, rfl⟩
            · obtain ⟨T10338, X10338, e10338, st10338⟩ := getS2 X10335 hx hZ hown (host := "") (Or.inl (hw _ (tk 92 rfl))) Via.refl e10335 (S_2.ext O0.2) (g := (mkF m 52 (lt26 r0 r1 w_2 r1 (3 : Int32) (((0 : Int32) + (1 : Int32)) + (1 : Int32)) x_r1_2) [])) rfl (hb hby d10_52)
              obtain ⟨fs, hr, hrun, hended, hW, hsame⟩ := X10338.leave (v := some (.ref w_2)) (fun h => by rw [Bd.returns] at h; cases h)
              refine ⟨_, _, pre10336 _ ?_, hrun, hended, _, _, rfl, ?_, ⟨_, rfl⟩, hW, hsame.mono (by decide) (by decide)⟩
              · show Sp p e below T10335 (mkF m 49 (lt26 r0 r1 w_2 r1 (3 : Int32) (((0 : Int32) + (1 : Int32)) + (1 : Int32)) x_r1_2) [(.int (sp11x1 x_r1_2 x_r0_f1_f4 x_r0_f1_f3_F))]) _
                refine XS.ifNo X10335.here hx rfl (hb hby d10_49) rfl ((if0 _ _).trans (feq hc10337).1) ?_
                show Sp p e below T10335 (mkF m 52 (lt26 r0 r1 w_2 r1 (3 : Int32) (((0 : Int32) + (1 : Int32)) + (1 : Int32)) x_r1_2) []) _
                refine st10338 _ ?_
                show Sp p e below T10338 (mkF m 55 (lt26 r0 r1 w_2 r1 (3 : Int32) (((0 : Int32) + (1 : Int32)) + (1 : Int32)) x_r1_2) [(.ref w_2)]) _
                refine XS.astoreN X10338.here hx rfl (hb hby d10_55) rfl rfl (l' := (lt26 r0 r1 w_2 r1 (3 : Int32) (((0 : Int32) + (1 : Int32)) + (1 : Int32)) x_r1_2)) rfl ?_
                refine XS.iinc X10338.here hx rfl (hb hby d10_56) rfl (l' := (lt26 r0 r1 w_2 r1 (3 : Int32) ((((0 : Int32) + (1 : Int32)) + (1 : Int32)) + (1 : Int32)) x_r1_2)) rfl ?_
                show Sp p e below T10338 (mkF m 59 (lt26 r0 r1 w_2 r1 (3 : Int32) ((((0 : Int32) + (1 : Int32)) + (1 : Int32)) + (1 : Int32)) x_r1_2) []) _
                refine XS.goto X10338.here hx rfl (pc0 := 59) (pc' := 11) rfl (hb hby d10_59) (by decide) (by decide) ?_
                show Sp p e below T10338 (mkF m 11 (lt26 r0 r1 w_2 r1 (3 : Int32) ((((0 : Int32) + (1 : Int32)) + (1 : Int32)) + (1 : Int32)) x_r1_2) []) _
                refine XS.iload X10338.here hx rfl (hb hby d10_11) rfl ?_
                refine XS.iload X10338.here hx rfl (hb hby d10_13) rfl ?_
                show Sp p e below T10338 (mkF m 15 (lt26 r0 r1 w_2 r1 (3 : Int32) ((((0 : Int32) + (1 : Int32)) + (1 : Int32)) + (1 : Int32)) x_r1_2) [(.int (3 : Int32)), (.int ((((0 : Int32) + (1 : Int32)) + (1 : Int32)) + (1 : Int32)))]) _
                refine XS.icmpYes X10338.here hx rfl (pc0 := 15) (pc' := 62) rfl (hb hby d10_15) rfl (flt (by decide : ¬ (((((0 : Int32) + (1 : Int32)) + (1 : Int32)) + (1 : Int32)) < (3 : Int32)))).2.1 (by decide) (by decide) ?_
                show Sp p e below T10338 (mkF m 62 (lt26 r0 r1 w_2 r1 (3 : Int32) ((((0 : Int32) + (1 : Int32)) + (1 : Int32)) + (1 : Int32)) x_r1_2) []) _
                refine XS.aloadN X10338.here hx rfl (hb hby d10_62) rfl rfl ?_
                show Sp p e below T10338 (mkF m 63 (lt26 r0 r1 w_2 r1 (3 : Int32) ((((0 : Int32) + (1 : Int32)) + (1 : Int32)) + (1 : Int32)) x_r1_2) [(.ref w_2)]) _
                jvm_step X10338.here [X10338.here.top, hx, (hb hby d10_63), X10338.method', Bd.returns, Value.isRef, FieldType.isReference]
                first | (intro acts; rw [hr _ acts rfl rfl rfl]) | rw [hr _ _ rfl rfl rfl]
                exact Steps.refl _
              · show Q10x4 Z w_1 w_2 r0 r1 r0_f0 r0_f0_f3 r0_f1 r0_f1_f3 x_r0_f0_f4 k_r0_f0_f3 x_r0_f0_f3_n x_r0_f0_f3_F x_r0_f1_f4 k_r0_f1_f3 x_r0_f1_f3_n x_r0_f1_f3_F k_r1 x_r1_0 x_r1_1 x_r1_2 h0 n0 _ T10338.heap _
                rw [e10338]
                exact ⟨by unfold sp10x4; rw [if_pos hc10303, if_pos hc10307, if_pos hc10312, if_neg hc10316, if_pos hc10333, if_neg hc10337], N10335, rfl⟩
          · obtain ⟨T10339, X10339, e10339, st10339⟩ := getS2 X10331 hx hZ hown (host := "") (Or.inl (hw _ (tk 88 rfl))) Via.refl e10331 (S_1.ext O0.2) (g := (mkF m 36 (lt26 r0 r1 w_2 r1 (3 : Int32) (((0 : Int32) + (1 : Int32)) + (1 : Int32)) x_r1_2) [])) rfl (hb hby d10_36)
            obtain ⟨fs, hr, hrun, hended, hW, hsame⟩ := X10339.leave (v := some (.ref w_1)) (fun h => by rw [Bd.returns] at h; cases h)
            refine ⟨_, _, pre10332 _ ?_, hrun, hended, _, _, rfl, ?_, ⟨_, rfl⟩, hW, hsame.mono (by decide) (by decide)⟩
            · show Sp p e below T10331 (mkF m 33 (lt26 r0 r1 w_2 r1 (3 : Int32) (((0 : Int32) + (1 : Int32)) + (1 : Int32)) x_r1_2) [(.int (sp11x1 x_r1_2 x_r0_f0_f4 x_r0_f0_f3_F))]) _
              refine XS.ifNo X10331.here hx rfl (hb hby d10_33) rfl ((if0 _ _).trans (feq hc10333).1) ?_
              show Sp p e below T10331 (mkF m 36 (lt26 r0 r1 w_2 r1 (3 : Int32) (((0 : Int32) + (1 : Int32)) + (1 : Int32)) x_r1_2) []) _
              refine st10339 _ ?_
              show Sp p e below T10339 (mkF m 39 (lt26 r0 r1 w_2 r1 (3 : Int32) (((0 : Int32) + (1 : Int32)) + (1 : Int32)) x_r1_2) [(.ref w_1)]) _
              jvm_step X10339.here [X10339.here.top, hx, (hb hby d10_39), X10339.method', Bd.returns, Value.isRef, FieldType.isReference]
              first | (intro acts; rw [hr _ acts rfl rfl rfl]) | rw [hr _ _ rfl rfl rfl]
              exact Steps.refl _
            · show Q10x4 Z w_1 w_2 r0 r1 r0_f0 r0_f0_f3 r0_f1 r0_f1_f3 x_r0_f0_f4 k_r0_f0_f3 x_r0_f0_f3_n x_r0_f0_f3_F x_r0_f1_f4 k_r0_f1_f3 x_r0_f1_f3_n x_r0_f1_f3_F k_r1 x_r1_0 x_r1_1 x_r1_2 h0 n0 _ T10339.heap _
              rw [e10339]
              exact ⟨by unfold sp10x4; rw [if_pos hc10303, if_pos hc10307, if_pos hc10312, if_neg hc10316, if_neg hc10333], N10331, rfl⟩
      · obtain ⟨T10340, X10340, e10340, st10340⟩ := getS2 X10310 hx hZ hown (host := "") (Or.inl (hw _ (tk 88 rfl))) Via.refl e10310 (S_1.ext O0.2) (g := (mkF m 36 (lt25 r0 r1 r1 (3 : Int32) ((0 : Int32) + (1 : Int32)) x_r1_1) [])) rfl (hb hby d10_36)
        obtain ⟨fs, hr, hrun, hended, hW, hsame⟩ := X10340.leave (v := some (.ref w_1)) (fun h => by rw [Bd.returns] at h; cases h)
        refine ⟨_, _, pre10311 _ ?_, hrun, hended, _, _, rfl, ?_, ⟨_, rfl⟩, hW, hsame.mono (by decide) (by decide)⟩
        · show Sp p e below T10310 (mkF m 33 (lt25 r0 r1 r1 (3 : Int32) ((0 : Int32) + (1 : Int32)) x_r1_1) [(.int (sp11x1 x_r1_1 x_r0_f0_f4 x_r0_f0_f3_F))]) _
          refine XS.ifNo X10310.here hx rfl (hb hby d10_33) rfl ((if0 _ _).trans (feq hc10312).1) ?_
          show Sp p e below T10310 (mkF m 36 (lt25 r0 r1 r1 (3 : Int32) ((0 : Int32) + (1 : Int32)) x_r1_1) []) _
          refine st10340 _ ?_
          show Sp p e below T10340 (mkF m 39 (lt25 r0 r1 r1 (3 : Int32) ((0 : Int32) + (1 : Int32)) x_r1_1) [(.ref w_1)]) _
          jvm_step X10340.here [X10340.here.top, hx, (hb hby d10_39), X10340.method', Bd.returns, Value.isRef, FieldType.isReference]
          first | (intro acts; rw [hr _ acts rfl rfl rfl]) | rw [hr _ _ rfl rfl rfl]
          exact Steps.refl _
        · show Q10x4 Z w_1 w_2 r0 r1 r0_f0 r0_f0_f3 r0_f1 r0_f1_f3 x_r0_f0_f4 k_r0_f0_f3 x_r0_f0_f3_n x_r0_f0_f3_F x_r0_f1_f4 k_r0_f1_f3 x_r0_f1_f3_n x_r0_f1_f3_F k_r1 x_r1_0 x_r1_1 x_r1_2 h0 n0 _ T10340.heap _
          rw [e10340]
          exact ⟨by unfold sp10x4; rw [if_pos hc10303, if_pos hc10307, if_neg hc10312], N10310, rfl⟩
    · obtain ⟨T10341, X10341, e10341, st10341⟩ := getS2 X10305 hx hZ hown (host := "") (Or.inl (hw _ (tk 92 rfl))) Via.refl e10305 (S_2.ext O0.2) (g := (mkF m 52 (lt25 r0 r1 r1 (3 : Int32) (0 : Int32) x_r1_0) [])) rfl (hb hby d10_52)
      obtain ⟨cl10342, Ar10342, qa10342, Sa10342, Ma10342, Ha10342, Ga10342⟩ := id V_r1
      have hin10342 : ¬ (((0 : Int32) + (1 : Int32)) < 0 ∨ cl10342.slots.size ≤ (((0 : Int32) + (1 : Int32))).toNatClampNeg) := by  exact inb_of Sa10342 ⟨by decide, by decide⟩
      have hat10342 : cl10342.slots[(((0 : Int32) + (1 : Int32))).toNatClampNeg]? = some (.int x_r1_1) := Has.at Ha10342 hin10342 (by rfl)
      obtain ⟨T10343, X10343, e10343, st10343⟩ := getF X10341 hx hZ hown (host := "") (Or.inl (hw _ (tk 33 rfl))) Via.refl e10341 F_denied_r0 (g := (mkF m 25 (lt26 r0 r1 w_2 r1 (3 : Int32) ((0 : Int32) + (1 : Int32)) x_r1_1) [(.ref r0)])) rfl rfl (hb hby d10_25)
      obtain ⟨cq10344, kq10344, q10344a, q10344b, q10344c⟩ := isOf hZ e10343 E_r0_f0
      obtain ⟨_, _, ⟨T10344, L10344, k10344, n10344⟩, -, X10344, ⟨Lc10344, hQ10344, l10344, y10344, z10344⟩, st10344⟩ := X10343.virtualBack hx (y := Y37) (z := Y37) hown (mvT hZ (hw _ (tk 63 rfl))) (mvT hZ (hw _ (tk 64 rfl))) (notFace_of_selects (args := #[]) (mvT hZ (hw _ (tk 66 rfl)))) (mvT hZ (hw _ (tk 66 rfl))) (mvT hZ (hw _ (tk 65 rfl))) (by decide) (backOf (W := 0) (rm11x1 l Z a0 hw hv [] w_1 w_2 hS0 r0_f0 x_r1_1 r0_f0_f3 x_r0_f0_f4 k_r0_f0_f3 x_r0_f0_f3_n x_r0_f0_f3_F h0 n0 O0 g_r0_f0 g_r0_f0_f3 E_r0_f0 F_words_r0_f0 F_wordsInUse_r0_f0 V_r0_f0_f3 ne_r0_f0_r0_f0_f3 as2 as3 as7) hZ (hw _ (tk 67 rfl)) (hw _ (tk 11 rfl)) (by decide) (by decide)) q10344a q10344c (g := (mkF m 30 (lt26 r0 r1 w_2 r1 (3 : Int32) ((0 : Int32) + (1 : Int32)) x_r1_1) [(.int x_r1_1), (.ref r0_f0)])) rfl (by rw [hml]; rfl) (Steps.refl _) (argsL := [(.int x_r1_1)]) (rest := []) (lenOf pd_6 rfl) rfl (by show 2 * 0 + _ ≤ _; exact Nat.le_of_eq rfl) (hb hby d10_30) (fun _ _ => ⟨rfl, e10343, (by decide : 0 + 0 ≤ _), (by decide : 0 + 0 ≤ _)⟩)
      dsimp only [Pt.U, Pt.locs, Pt.cells, Pt.slots] at X10344 l10344 y10344 z10344 st10344 hQ10344
      subst l10344 y10344 z10344
      obtain ⟨rv10344, N10344q, e10344⟩ := hQ10344
      subst rv10344
      have N10344 := Fr.app N10305 N10344q
      have pre10345 : Cm p e below E0 (T10344.setTop (mkF m 33 (lt26 r0 r1 w_2 r1 (3 : Int32) ((0 : Int32) + (1 : Int32)) x_r1_1) [(.int (sp11x1 x_r1_1 x_r0_f0_f4 x_r0_f0_f3_F))])) := fun t kt => by
        refine pre10306 t ?_
        show Sp p e below T10305 (mkF m 49 (lt25 r0 r1 r1 (3 : Int32) (0 : Int32) x_r1_0) [(.int (sp11x1 x_r1_0 x_r0_f1_f4 x_r0_f1_f3_F))]) _
        refine XS.ifNo X10305.here hx rfl (hb hby d10_49) rfl ((if0 _ _).trans (feq hc10307).1) ?_
        show Sp p e below T10305 (mkF m 52 (lt25 r0 r1 r1 (3 : Int32) (0 : Int32) x_r1_0) []) _
        refine st10341 _ ?_
        show Sp p e below T10341 (mkF m 55 (lt25 r0 r1 r1 (3 : Int32) (0 : Int32) x_r1_0) [(.ref w_2)]) _
        refine XS.astoreN X10341.here hx rfl (hb hby d10_55) rfl rfl (l' := (lt26 r0 r1 w_2 r1 (3 : Int32) (0 : Int32) x_r1_0)) rfl ?_
        refine XS.iinc X10341.here hx rfl (hb hby d10_56) rfl (l' := (lt26 r0 r1 w_2 r1 (3 : Int32) ((0 : Int32) + (1 : Int32)) x_r1_0)) rfl ?_
        show Sp p e below T10341 (mkF m 59 (lt26 r0 r1 w_2 r1 (3 : Int32) ((0 : Int32) + (1 : Int32)) x_r1_0) []) _
        refine XS.goto X10341.here hx rfl (pc0 := 59) (pc' := 11) rfl (hb hby d10_59) (by decide) (by decide) ?_
        show Sp p e below T10341 (mkF m 11 (lt26 r0 r1 w_2 r1 (3 : Int32) ((0 : Int32) + (1 : Int32)) x_r1_0) []) _
        refine XS.iload X10341.here hx rfl (hb hby d10_11) rfl ?_
        refine XS.iload X10341.here hx rfl (hb hby d10_13) rfl ?_
        show Sp p e below T10341 (mkF m 15 (lt26 r0 r1 w_2 r1 (3 : Int32) ((0 : Int32) + (1 : Int32)) x_r1_0) [(.int (3 : Int32)), (.int ((0 : Int32) + (1 : Int32)))]) _
        refine XS.icmpNo X10341.here hx rfl (hb hby d10_15) rfl (tlt (by decide : (((0 : Int32) + (1 : Int32)) < (3 : Int32)))).2.1 ?_
        show Sp p e below T10341 (mkF m 18 (lt26 r0 r1 w_2 r1 (3 : Int32) ((0 : Int32) + (1 : Int32)) x_r1_0) []) _
        refine XS.aloadN X10341.here hx rfl (hb hby d10_18) rfl rfl ?_
        refine XS.iload X10341.here hx rfl (hb hby d10_19) rfl ?_
        show Sp p e below T10341 (mkF m 21 (lt26 r0 r1 w_2 r1 (3 : Int32) ((0 : Int32) + (1 : Int32)) x_r1_0) [(.int ((0 : Int32) + (1 : Int32))), (.ref r1)]) _
        refine X10341.iaload hx (j := ((0 : Int32) + (1 : Int32))) (v := (.int x_r1_1)) (by rw [e10341]; exact Ar10342.1) (State.isArrayOf_alike hZ.alike Ar10342.2.1) Ar10342.2.2 hin10342 hat10342 (g := (mkF m 21 (lt26 r0 r1 w_2 r1 (3 : Int32) ((0 : Int32) + (1 : Int32)) x_r1_0) [(.int ((0 : Int32) + (1 : Int32))), (.ref r1)])) rfl rfl (hb hby d10_21) _ ?_
        show Sp p e below T10341 (mkF m 22 (lt26 r0 r1 w_2 r1 (3 : Int32) ((0 : Int32) + (1 : Int32)) x_r1_0) [(.int x_r1_1)]) _
        refine XS.istore X10341.here hx rfl (hb hby d10_22) rfl (l' := (lt26 r0 r1 w_2 r1 (3 : Int32) ((0 : Int32) + (1 : Int32)) x_r1_1)) rfl ?_
        refine XS.aloadN X10341.here hx rfl (hb hby d10_24) rfl rfl ?_
        show Sp p e below T10341 (mkF m 25 (lt26 r0 r1 w_2 r1 (3 : Int32) ((0 : Int32) + (1 : Int32)) x_r1_1) [(.ref r0)]) _
        refine st10343 _ ?_
        show Sp p e below T10343 (mkF m 28 (lt26 r0 r1 w_2 r1 (3 : Int32) ((0 : Int32) + (1 : Int32)) x_r1_1) [(.ref r0_f0)]) _
        refine XS.iload X10343.here hx rfl (hb hby d10_28) rfl ?_
        show Sp p e below T10343 (mkF m 30 (lt26 r0 r1 w_2 r1 (3 : Int32) ((0 : Int32) + (1 : Int32)) x_r1_1) [(.int x_r1_1), (.ref r0_f0)]) _
        refine st10344.trans ?_
        show Sp p e below T10344 (mkF m 33 (lt26 r0 r1 w_2 r1 (3 : Int32) ((0 : Int32) + (1 : Int32)) x_r1_1) [(.int (sp11x1 x_r1_1 x_r0_f0_f4 x_r0_f0_f3_F))]) _
        exact kt
      by_cases hc10346 : (sp11x1 x_r1_1 x_r0_f0_f4 x_r0_f0_f3_F) = (0 : Int32)
      · obtain ⟨T10347, X10347, e10347, st10347⟩ := getF X10344 hx hZ hown (host := "") (Or.inl (hw _ (tk 31 rfl))) Via.refl e10344 F_permitted_r0 (g := (mkF m 41 (lt26 r0 r1 w_2 r1 (3 : Int32) ((0 : Int32) + (1 : Int32)) x_r1_1) [(.ref r0)])) rfl rfl (hb hby d10_41)
        obtain ⟨cq10348, kq10348, q10348a, q10348b, q10348c⟩ := isOf hZ e10347 E_r0_f1
        obtain ⟨_, _, ⟨T10348, L10348, k10348, n10348⟩, -, X10348, ⟨Lc10348, hQ10348, l10348, y10348, z10348⟩, st10348⟩ := X10347.virtualBack hx (y := Y37) (z := Y37) hown (mvT hZ (hw _ (tk 63 rfl))) (mvT hZ (hw _ (tk 64 rfl))) (notFace_of_selects (args := #[]) (mvT hZ (hw _ (tk 66 rfl)))) (mvT hZ (hw _ (tk 66 rfl))) (mvT hZ (hw _ (tk 65 rfl))) (by decide) (backOf (W := 0) (rm11x1 l Z a0 hw hv [] w_1 w_2 hS0 r0_f1 x_r1_1 r0_f1_f3 x_r0_f1_f4 k_r0_f1_f3 x_r0_f1_f3_n x_r0_f1_f3_F h0 n0 O0 g_r0_f1 g_r0_f1_f3 E_r0_f1 F_words_r0_f1 F_wordsInUse_r0_f1 V_r0_f1_f3 ne_r0_f1_r0_f1_f3 as2 as3 as6) hZ (hw _ (tk 67 rfl)) (hw _ (tk 11 rfl)) (by decide) (by decide)) q10348a q10348c (g := (mkF m 46 (lt26 r0 r1 w_2 r1 (3 : Int32) ((0 : Int32) + (1 : Int32)) x_r1_1) [(.int x_r1_1), (.ref r0_f1)])) rfl (by rw [hml]; rfl) (Steps.refl _) (argsL := [(.int x_r1_1)]) (rest := []) (lenOf pd_6 rfl) rfl (by show 2 * 0 + _ ≤ _; exact Nat.le_of_eq rfl) (hb hby d10_46) (fun _ _ => ⟨rfl, e10347, (by decide : 0 + 0 ≤ _), (by decide : 0 + 0 ≤ _)⟩)
        dsimp only [Pt.U, Pt.locs, Pt.cells, Pt.slots] at X10348 l10348 y10348 z10348 st10348 hQ10348
        subst l10348 y10348 z10348
        obtain ⟨rv10348, N10348q, e10348⟩ := hQ10348
        subst rv10348
        have N10348 := Fr.app N10344 N10348q
        have pre10349 : Cm p e below E0 (T10348.setTop (mkF m 49 (lt26 r0 r1 w_2 r1 (3 : Int32) ((0 : Int32) + (1 : Int32)) x_r1_1) [(.int (sp11x1 x_r1_1 x_r0_f1_f4 x_r0_f1_f3_F))])) := fun t kt => by
          refine pre10345 t ?_
          show Sp p e below T10344 (mkF m 33 (lt26 r0 r1 w_2 r1 (3 : Int32) ((0 : Int32) + (1 : Int32)) x_r1_1) [(.int (sp11x1 x_r1_1 x_r0_f0_f4 x_r0_f0_f3_F))]) _
          refine XS.ifYes X10344.here hx rfl (pc0 := 33) (pc' := 40) rfl (hb hby d10_33) rfl ((if0 _ _).trans (teq hc10346).1) (by decide) (by decide) ?_
          show Sp p e below T10344 (mkF m 40 (lt26 r0 r1 w_2 r1 (3 : Int32) ((0 : Int32) + (1 : Int32)) x_r1_1) []) _
          refine XS.aloadN X10344.here hx rfl (hb hby d10_40) rfl rfl ?_
          show Sp p e below T10344 (mkF m 41 (lt26 r0 r1 w_2 r1 (3 : Int32) ((0 : Int32) + (1 : Int32)) x_r1_1) [(.ref r0)]) _
          refine st10347 _ ?_
          show Sp p e below T10347 (mkF m 44 (lt26 r0 r1 w_2 r1 (3 : Int32) ((0 : Int32) + (1 : Int32)) x_r1_1) [(.ref r0_f1)]) _
          refine XS.iload X10347.here hx rfl (hb hby d10_44) rfl ?_
          show Sp p e below T10347 (mkF m 46 (lt26 r0 r1 w_2 r1 (3 : Int32) ((0 : Int32) + (1 : Int32)) x_r1_1) [(.int x_r1_1), (.ref r0_f1)]) _
          refine st10348.trans ?_
          show Sp p e below T10348 (mkF m 49 (lt26 r0 r1 w_2 r1 (3 : Int32) ((0 : Int32) + (1 : Int32)) x_r1_1) [(.int (sp11x1 x_r1_1 x_r0_f1_f4 x_r0_f1_f3_F))]) _
          exact kt
        by_cases hc10350 : (sp11x1 x_r1_1 x_r0_f1_f4 x_r0_f1_f3_F) = (0 : Int32)
        · obtain ⟨cl10351, Ar10351, qa10351, Sa10351, Ma10351, Ha10351, Ga10351⟩ := id V_r1
          have hin10351 : ¬ ((((0 : Int32) + (1 : Int32)) + (1 : Int32)) < 0 ∨ cl10351.slots.size ≤ ((((0 : Int32) + (1 : Int32)) + (1 : Int32))).toNatClampNeg) := by  exact inb_of Sa10351 ⟨by decide, by decide⟩
          have hat10351 : cl10351.slots[((((0 : Int32) + (1 : Int32)) + (1 : Int32))).toNatClampNeg]? = some (.int x_r1_2) := Has.at Ha10351 hin10351 (by rfl)
          obtain ⟨T10352, X10352, e10352, st10352⟩ := getF X10348 hx hZ hown (host := "") (Or.inl (hw _ (tk 33 rfl))) Via.refl e10348 F_denied_r0 (g := (mkF m 25 (lt26 r0 r1 w_2 r1 (3 : Int32) (((0 : Int32) + (1 : Int32)) + (1 : Int32)) x_r1_2) [(.ref r0)])) rfl rfl (hb hby d10_25)
          obtain ⟨cq10353, kq10353, q10353a, q10353b, q10353c⟩ := isOf hZ e10352 E_r0_f0
          obtain ⟨_, _, ⟨T10353, L10353, k10353, n10353⟩, -, X10353, ⟨Lc10353, hQ10353, l10353, y10353, z10353⟩, st10353⟩ := X10352.virtualBack hx (y := Y37) (z := Y37) hown (mvT hZ (hw _ (tk 63 rfl))) (mvT hZ (hw _ (tk 64 rfl))) (notFace_of_selects (args := #[]) (mvT hZ (hw _ (tk 66 rfl)))) (mvT hZ (hw _ (tk 66 rfl))) (mvT hZ (hw _ (tk 65 rfl))) (by decide) (backOf (W := 0) (rm11x1 l Z a0 hw hv [] w_1 w_2 hS0 r0_f0 x_r1_2 r0_f0_f3 x_r0_f0_f4 k_r0_f0_f3 x_r0_f0_f3_n x_r0_f0_f3_F h0 n0 O0 g_r0_f0 g_r0_f0_f3 E_r0_f0 F_words_r0_f0 F_wordsInUse_r0_f0 V_r0_f0_f3 ne_r0_f0_r0_f0_f3 as4 as5 as7) hZ (hw _ (tk 67 rfl)) (hw _ (tk 11 rfl)) (by decide) (by decide)) q10353a q10353c (g := (mkF m 30 (lt26 r0 r1 w_2 r1 (3 : Int32) (((0 : Int32) + (1 : Int32)) + (1 : Int32)) x_r1_2) [(.int x_r1_2), (.ref r0_f0)])) rfl (by rw [hml]; rfl) (Steps.refl _) (argsL := [(.int x_r1_2)]) (rest := []) (lenOf pd_6 rfl) rfl (by show 2 * 0 + _ ≤ _; exact Nat.le_of_eq rfl) (hb hby d10_30) (fun _ _ => ⟨rfl, e10352, (by decide : 0 + 0 ≤ _), (by decide : 0 + 0 ≤ _)⟩)
          dsimp only [Pt.U, Pt.locs, Pt.cells, Pt.slots] at X10353 l10353 y10353 z10353 st10353 hQ10353
          subst l10353 y10353 z10353
          obtain ⟨rv10353, N10353q, e10353⟩ := hQ10353
          subst rv10353
          have N10353 := Fr.app N10348 N10353q
          have pre10354 : Cm p e below E0 (T10353.setTop (mkF m 33 (lt26 r0 r1 w_2 r1 (3 : Int32) (((0 : Int32) + (1 : Int32)) + (1 : Int32)) x_r1_2) [(.int (sp11x1 x_r1_2 x_r0_f0_f4 x_r0_f0_f3_F))])) := fun t kt => by
            refine pre10349 t ?_
            show Sp p e below T10348 (mkF m 49 (lt26 r0 r1 w_2 r1 (3 : Int32) ((0 : Int32) + (1 : Int32)) x_r1_1) [(.int (sp11x1 x_r1_1 x_r0_f1_f4 x_r0_f1_f3_F))]) _
            refine XS.ifYes X10348.here hx rfl (pc0 := 49) (pc' := 56) rfl (hb hby d10_49) rfl ((if0 _ _).trans (teq hc10350).1) (by decide) (by decide) ?_
            show Sp p e below T10348 (mkF m 56 (lt26 r0 r1 w_2 r1 (3 : Int32) ((0 : Int32) + (1 : Int32)) x_r1_1) []) _
            refine XS.iinc X10348.here hx rfl (hb hby d10_56) rfl (l' := (lt26 r0 r1 w_2 r1 (3 : Int32) (((0 : Int32) + (1 : Int32)) + (1 : Int32)) x_r1_1)) rfl ?_
            show Sp p e below T10348 (mkF m 59 (lt26 r0 r1 w_2 r1 (3 : Int32) (((0 : Int32) + (1 : Int32)) + (1 : Int32)) x_r1_1) []) _
            refine XS.goto X10348.here hx rfl (pc0 := 59) (pc' := 11) rfl (hb hby d10_59) (by decide) (by decide) ?_
            show Sp p e below T10348 (mkF m 11 (lt26 r0 r1 w_2 r1 (3 : Int32) (((0 : Int32) + (1 : Int32)) + (1 : Int32)) x_r1_1) []) _
            refine XS.iload X10348.here hx rfl (hb hby d10_11) rfl ?_
            refine XS.iload X10348.here hx rfl (hb hby d10_13) rfl ?_
            show Sp p e below T10348 (mkF m 15 (lt26 r0 r1 w_2 r1 (3 : Int32) (((0 : Int32) + (1 : Int32)) + (1 : Int32)) x_r1_1) [(.int (3 : Int32)), (.int (((0 : Int32) + (1 : Int32)) + (1 : Int32)))]) _
            refine XS.icmpNo X10348.here hx rfl (hb hby d10_15) rfl (tlt (by decide : ((((0 : Int32) + (1 : Int32)) + (1 : Int32)) < (3 : Int32)))).2.1 ?_
            show Sp p e below T10348 (mkF m 18 (lt26 r0 r1 w_2 r1 (3 : Int32) (((0 : Int32) + (1 : Int32)) + (1 : Int32)) x_r1_1) []) _
            refine XS.aloadN X10348.here hx rfl (hb hby d10_18) rfl rfl ?_
            refine XS.iload X10348.here hx rfl (hb hby d10_19) rfl ?_
            show Sp p e below T10348 (mkF m 21 (lt26 r0 r1 w_2 r1 (3 : Int32) (((0 : Int32) + (1 : Int32)) + (1 : Int32)) x_r1_1) [(.int (((0 : Int32) + (1 : Int32)) + (1 : Int32))), (.ref r1)]) _
            refine X10348.iaload hx (j := (((0 : Int32) + (1 : Int32)) + (1 : Int32))) (v := (.int x_r1_2)) (by rw [e10348]; exact Ar10351.1) (State.isArrayOf_alike hZ.alike Ar10351.2.1) Ar10351.2.2 hin10351 hat10351 (g := (mkF m 21 (lt26 r0 r1 w_2 r1 (3 : Int32) (((0 : Int32) + (1 : Int32)) + (1 : Int32)) x_r1_1) [(.int (((0 : Int32) + (1 : Int32)) + (1 : Int32))), (.ref r1)])) rfl rfl (hb hby d10_21) _ ?_
            show Sp p e below T10348 (mkF m 22 (lt26 r0 r1 w_2 r1 (3 : Int32) (((0 : Int32) + (1 : Int32)) + (1 : Int32)) x_r1_1) [(.int x_r1_2)]) _
            refine XS.istore X10348.here hx rfl (hb hby d10_22) rfl (l' := (lt26 r0 r1 w_2 r1 (3 : Int32) (((0 : Int32) + (1 : Int32)) + (1 : Int32)) x_r1_2)) rfl ?_
            refine XS.aloadN X10348.here hx rfl (hb hby d10_24) rfl rfl ?_
            show Sp p e below T10348 (mkF m 25 (lt26 r0 r1 w_2 r1 (3 : Int32) (((0 : Int32) + (1 : Int32)) + (1 : Int32)) x_r1_2) [(.ref r0)]) _
            refine st10352 _ ?_
            show Sp p e below T10352 (mkF m 28 (lt26 r0 r1 w_2 r1 (3 : Int32) (((0 : Int32) + (1 : Int32)) + (1 : Int32)) x_r1_2) [(.ref r0_f0)]) _
            refine XS.iload X10352.here hx rfl (hb hby d10_28) rfl ?_
            show Sp p e below T10352 (mkF m 30 (lt26 r0 r1 w_2 r1 (3 : Int32) (((0 : Int32) + (1 : Int32)) + (1 : Int32)) x_r1_2) [(.int x_r1_2), (.ref r0_f0)]) _
            refine st10353.trans ?_
            show Sp p e below T10353 (mkF m 33 (lt26 r0 r1 w_2 r1 (3 : Int32) (((0 : Int32) + (1 : Int32)) + (1 : Int32)) x_r1_2) [(.int (sp11x1 x_r1_2 x_r0_f0_f4 x_r0_f0_f3_F))]) _
            exact kt
          by_cases hc10355 : (sp11x1 x_r1_2 x_r0_f0_f4 x_r0_f0_f3_F) = (0 : Int32)
          · obtain ⟨T10356, X10356, e10356, st10356⟩ := getF X10353 hx hZ hown (host := "") (Or.inl (hw _ (tk 31 rfl))) Via.refl e10353 F_permitted_r0 (g := (mkF m 41 (lt26 r0 r1 w_2 r1 (3 : Int32) (((0 : Int32) + (1 : Int32)) + (1 : Int32)) x_r1_2) [(.ref r0)])) rfl rfl (hb hby d10_41)
            obtain ⟨cq10357, kq10357, q10357a, q10357b, q10357c⟩ := isOf hZ e10356 E_r0_f1
            obtain ⟨_, _, ⟨T10357, L10357, k10357, n10357⟩, -, X10357, ⟨Lc10357, hQ10357, l10357, y10357, z10357⟩, st10357⟩ := X10356.virtualBack hx (y := Y37) (z := Y37) hown (mvT hZ (hw _ (tk 63 rfl))) (mvT hZ (hw _ (tk 64 rfl))) (notFace_of_selects (args := #[]) (mvT hZ (hw _ (tk 66 rfl)))) (mvT hZ (hw _ (tk 66 rfl))) (mvT hZ (hw _ (tk 65 rfl))) (by decide) (backOf (W := 0) (rm11x1 l Z a0 hw hv [] w_1 w_2 hS0 r0_f1 x_r1_2 r0_f1_f3 x_r0_f1_f4 k_r0_f1_f3 x_r0_f1_f3_n x_r0_f1_f3_F h0 n0 O0 g_r0_f1 g_r0_f1_f3 E_r0_f1 F_words_r0_f1 F_wordsInUse_r0_f1 V_r0_f1_f3 ne_r0_f1_r0_f1_f3 as4 as5 as6) hZ (hw _ (tk 67 rfl)) (hw _ (tk 11 rfl)) (by decide) (by decide)) q10357a q10357c (g := (mkF m 46 (lt26 r0 r1 w_2 r1 (3 : Int32) (((0 : Int32) + (1 : Int32)) + (1 : Int32)) x_r1_2) [(.int x_r1_2), (.ref r0_f1)])) rfl (by rw [hml]; rfl) (Steps.refl _) (argsL := [(.int x_r1_2)]) (rest := []) (lenOf pd_6 rfl) rfl (by show 2 * 0 + _ ≤ _; exact Nat.le_of_eq rfl) (hb hby d10_46) (fun _ _ => ⟨rfl, e10356, (by decide : 0 + 0 ≤ _), (by decide : 0 + 0 ≤ _)⟩)
            dsimp only [Pt.U, Pt.locs, Pt.cells, Pt.slots] at X10357 l10357 y10357 z10357 st10357 hQ10357
            subst l10357 y10357 z10357
            obtain ⟨rv10357, N10357q, e10357⟩ := hQ10357
            subst rv10357
            have N10357 := Fr.app N10353 N10357q
            have pre10358 : Cm p e below E0 (T10357.setTop (mkF m 49 (lt26 r0 r1 w_2 r1 (3 : Int32) (((0 : Int32) + (1 : Int32)) + (1 : Int32)) x_r1_2) [(.int (sp11x1 x_r1_2 x_r0_f1_f4 x_r0_f1_f3_F))])) := fun t kt => by
              refine pre10354 t ?_
              show Sp p e below T10353 (mkF m 33 (lt26 r0 r1 w_2 r1 (3 : Int32) (((0 : Int32) + (1 : Int32)) + (1 : Int32)) x_r1_2) [(.int (sp11x1 x_r1_2 x_r0_f0_f4 x_r0_f0_f3_F))]) _
              refine XS.ifYes X10353.here hx rfl (pc0 := 33) (pc' := 40) rfl (hb hby d10_33) rfl ((if0 _ _).trans (teq hc10355).1) (by decide) (by decide) ?_
              show Sp p e below T10353 (mkF m 40 (lt26 r0 r1 w_2 r1 (3 : Int32) (((0 : Int32) + (1 : Int32)) + (1 : Int32)) x_r1_2) []) _
              refine XS.aloadN X10353.here hx rfl (hb hby d10_40) rfl rfl ?_
              show Sp p e below T10353 (mkF m 41 (lt26 r0 r1 w_2 r1 (3 : Int32) (((0 : Int32) + (1 : Int32)) + (1 : Int32)) x_r1_2) [(.ref r0)]) _
              refine st10356 _ ?_
              show Sp p e below T10356 (mkF m 44 (lt26 r0 r1 w_2 r1 (3 : Int32) (((0 : Int32) + (1 : Int32)) + (1 : Int32)) x_r1_2) [(.ref r0_f1)]) _
              refine XS.iload X10356.here hx rfl (hb hby d10_44) rfl ?_
              show Sp p e below T10356 (mkF m 46 (lt26 r0 r1 w_2 r1 (3 : Int32) (((0 : Int32) + (1 : Int32)) + (1 : Int32)) x_r1_2) [(.int x_r1_2), (.ref r0_f1)]) _
              refine st10357.trans ?_
              show Sp p e below T10357 (mkF m 49 (lt26 r0 r1 w_2 r1 (3 : Int32) (((0 : Int32) + (1 : Int32)) + (1 : Int32)) x_r1_2) [(.int (sp11x1 x_r1_2 x_r0_f1_f4 x_r0_f1_f3_F))]) _
              exact kt
            by_cases hc10359 : (sp11x1 x_r1_2 x_r0_f1_f4 x_r0_f1_f3_F) = (0 : Int32)
            · obtain ⟨fs, hr, hrun, hended, hW, hsame⟩ := X10357.leave (v := some (.ref w_2)) (fun h => by rw [Bd.returns] at h; cases h)
              refine ⟨_, _, pre10358 _ ?_, hrun, hended, _, _, rfl, ?_, ⟨_, rfl⟩, hW, hsame.mono (by decide) (by decide)⟩
              · show Sp p e below T10357 (mkF m 49 (lt26 r0 r1 w_2 r1 (3 : Int32) (((0 : Int32) + (1 : Int32)) + (1 : Int32)) x_r1_2) [(.int (sp11x1 x_r1_2 x_r0_f1_f4 x_r0_f1_f3_F))]) _
                refine XS.ifYes X10357.here hx rfl (pc0 := 49) (pc' := 56) rfl (hb hby d10_49) rfl ((if0 _ _).trans (teq hc10359).1) (by decide) (by decide) ?_
                show Sp p e below T10357 (mkF m 56 (lt26 r0 r1 w_2 r1 (3 : Int32) (((0 : Int32) + (1 : Int32)) + (1 : Int32)) x_r1_2) []) _
                refine XS.iinc X10357.here hx rfl (hb hby d10_56) rfl (l' := (lt26 r0 r1 w_2 r1 (3 : Int32) ((((0 : Int32) + (1 : Int32)) + (1 : Int32)) + (1 : Int32)) x_r1_2)) rfl ?_
                show Sp p e below T10357 (mkF m 59 (lt26 r0 r1 w_2 r1 (3 : Int32) ((((0 : Int32) + (1 : Int32)) + (1 : Int32)) + (1 : Int32)) x_r1_2) []) _
                refine XS.goto X10357.here hx rfl (pc0 := 59) (pc' := 11) rfl (hb hby d10_59) (by decide) (by decide) ?_
                show Sp p e below T10357 (mkF m 11 (lt26 r0 r1 w_2 r1 (3 : Int32) ((((0 : Int32) + (1 : Int32)) + (1 : Int32)) + (1 : Int32)) x_r1_2) []) _
                refine XS.iload X10357.here hx rfl (hb hby d10_11) rfl ?_
                refine XS.iload X10357.here hx rfl (hb hby d10_13) rfl ?_
                show Sp p e below T10357 (mkF m 15 (lt26 r0 r1 w_2 r1 (3 : Int32) ((((0 : Int32) + (1 : Int32)) + (1 : Int32)) + (1 : Int32)) x_r1_2) [(.int (3 : Int32)), (.int ((((0 : Int32) + (1 : Int32)) + (1 : Int32)) + (1 : Int32)))]) _
                refine XS.icmpYes X10357.here hx rfl (pc0 := 15) (pc' := 62) rfl (hb hby d10_15) rfl (flt (by decide : ¬ (((((0 : Int32) + (1 : Int32)) + (1 : Int32)) + (1 : Int32)) < (3 : Int32)))).2.1 (by decide) (by decide) ?_
                show Sp p e below T10357 (mkF m 62 (lt26 r0 r1 w_2 r1 (3 : Int32) ((((0 : Int32) + (1 : Int32)) + (1 : Int32)) + (1 : Int32)) x_r1_2) []) _
                refine XS.aloadN X10357.here hx rfl (hb hby d10_62) rfl rfl ?_
                show Sp p e below T10357 (mkF m 63 (lt26 r0 r1 w_2 r1 (3 : Int32) ((((0 : Int32) + (1 : Int32)) + (1 : Int32)) + (1 : Int32)) x_r1_2) [(.ref w_2)]) _
                jvm_step X10357.here [X10357.here.top, hx, (hb hby d10_63), X10357.method', Bd.returns, Value.isRef, FieldType.isReference]
                first | (intro acts; rw [hr _ acts rfl rfl rfl]) | rw [hr _ _ rfl rfl rfl]
                exact Steps.refl _
              · show Q10x4 Z w_1 w_2 r0 r1 r0_f0 r0_f0_f3 r0_f1 r0_f1_f3 x_r0_f0_f4 k_r0_f0_f3 x_r0_f0_f3_n x_r0_f0_f3_F x_r0_f1_f4 k_r0_f1_f3 x_r0_f1_f3_n x_r0_f1_f3_F k_r1 x_r1_0 x_r1_1 x_r1_2 h0 n0 _ T10357.heap _
                rw [e10357]
                exact ⟨by unfold sp10x4; rw [if_pos hc10303, if_neg hc10307, if_pos hc10346, if_pos hc10350, if_pos hc10355, if_pos hc10359], N10357, rfl⟩
            · obtain ⟨T10360, X10360, e10360, st10360⟩ := getS2 X10357 hx hZ hown (host := "") (Or.inl (hw _ (tk 92 rfl))) Via.refl e10357 (S_2.ext O0.2) (g := (mkF m 52 (lt26 r0 r1 w_2 r1 (3 : Int32) (((0 : Int32) + (1 : Int32)) + (1 : Int32)) x_r1_2) [])) rfl (hb hby d10_52)
              obtain ⟨fs, hr, hrun, hended, hW, hsame⟩ := X10360.leave (v := some (.ref w_2)) (fun h => by rw [Bd.returns] at h; cases h)
              refine ⟨_, _, pre10358 _ ?_, hrun, hended, _, _, rfl, ?_, ⟨_, rfl⟩, hW, hsame.mono (by decide) (by decide)⟩
              · show Sp p e below T10357 (mkF m 49 (lt26 r0 r1 w_2 r1 (3 : Int32) (((0 : Int32) + (1 : Int32)) + (1 : Int32)) x_r1_2) [(.int (sp11x1 x_r1_2 x_r0_f1_f4 x_r0_f1_f3_F))]) _
                refine XS.ifNo X10357.here hx rfl (hb hby d10_49) rfl ((if0 _ _).trans (feq hc10359).1) ?_
                show Sp p e below T10357 (mkF m 52 (lt26 r0 r1 w_2 r1 (3 : Int32) (((0 : Int32) + (1 : Int32)) + (1 : Int32)) x_r1_2) []) _
                refine st10360 _ ?_
                show Sp p e below T10360 (mkF m 55 (lt26 r0 r1 w_2 r1 (3 : Int32) (((0 : Int32) + (1 : Int32)) + (1 : Int32)) x_r1_2) [(.ref w_2)]) _
                refine XS.astoreN X10360.here hx rfl (hb hby d10_55) rfl rfl (l' := (lt26 r0 r1 w_2 r1 (3 : Int32) (((0 : Int32) + (1 : Int32)) + (1 : Int32)) x_r1_2)) rfl ?_
                refine XS.iinc X10360.here hx rfl (hb hby d10_56) rfl (l' := (lt26 r0 r1 w_2 r1 (3 : Int32) ((((0 : Int32) + (1 : Int32)) + (1 : Int32)) + (1 : Int32)) x_r1_2)) rfl ?_
                show Sp p e below T10360 (mkF m 59 (lt26 r0 r1 w_2 r1 (3 : Int32) ((((0 : Int32) + (1 : Int32)) + (1 : Int32)) + (1 : Int32)) x_r1_2) []) _
                refine XS.goto X10360.here hx rfl (pc0 := 59) (pc' := 11) rfl (hb hby d10_59) (by decide) (by decide) ?_
                show Sp p e below T10360 (mkF m 11 (lt26 r0 r1 w_2 r1 (3 : Int32) ((((0 : Int32) + (1 : Int32)) + (1 : Int32)) + (1 : Int32)) x_r1_2) []) _
                refine XS.iload X10360.here hx rfl (hb hby d10_11) rfl ?_
                refine XS.iload X10360.here hx rfl (hb hby d10_13) rfl ?_
                show Sp p e below T10360 (mkF m 15 (lt26 r0 r1 w_2 r1 (3 : Int32) ((((0 : Int32) + (1 : Int32)) + (1 : Int32)) + (1 : Int32)) x_r1_2) [(.int (3 : Int32)), (.int ((((0 : Int32) + (1 : Int32)) + (1 : Int32)) + (1 : Int32)))]) _
                refine XS.icmpYes X10360.here hx rfl (pc0 := 15) (pc' := 62) rfl (hb hby d10_15) rfl (flt (by decide : ¬ (((((0 : Int32) + (1 : Int32)) + (1 : Int32)) + (1 : Int32)) < (3 : Int32)))).2.1 (by decide) (by decide) ?_
                show Sp p e below T10360 (mkF m 62 (lt26 r0 r1 w_2 r1 (3 : Int32) ((((0 : Int32) + (1 : Int32)) + (1 : Int32)) + (1 : Int32)) x_r1_2) []) _
                refine XS.aloadN X10360.here hx rfl (hb hby d10_62) rfl rfl ?_
                show Sp p e below T10360 (mkF m 63 (lt26 r0 r1 w_2 r1 (3 : Int32) ((((0 : Int32) + (1 : Int32)) + (1 : Int32)) + (1 : Int32)) x_r1_2) [(.ref w_2)]) _
                jvm_step X10360.here [X10360.here.top, hx, (hb hby d10_63), X10360.method', Bd.returns, Value.isRef, FieldType.isReference]
                first | (intro acts; rw [hr _ acts rfl rfl rfl]) | rw [hr _ _ rfl rfl rfl]
                exact Steps.refl _
              · show Q10x4 Z w_1 w_2 r0 r1 r0_f0 r0_f0_f3 r0_f1 r0_f1_f3 x_r0_f0_f4 k_r0_f0_f3 x_r0_f0_f3_n x_r0_f0_f3_F x_r0_f1_f4 k_r0_f1_f3 x_r0_f1_f3_n x_r0_f1_f3_F k_r1 x_r1_0 x_r1_1 x_r1_2 h0 n0 _ T10360.heap _
                rw [e10360]
                exact ⟨by unfold sp10x4; rw [if_pos hc10303, if_neg hc10307, if_pos hc10346, if_pos hc10350, if_pos hc10355, if_neg hc10359], N10357, rfl⟩
          · obtain ⟨T10361, X10361, e10361, st10361⟩ := getS2 X10353 hx hZ hown (host := "") (Or.inl (hw _ (tk 88 rfl))) Via.refl e10353 (S_1.ext O0.2) (g := (mkF m 36 (lt26 r0 r1 w_2 r1 (3 : Int32) (((0 : Int32) + (1 : Int32)) + (1 : Int32)) x_r1_2) [])) rfl (hb hby d10_36)
            obtain ⟨fs, hr, hrun, hended, hW, hsame⟩ := X10361.leave (v := some (.ref w_1)) (fun h => by rw [Bd.returns] at h; cases h)
            refine ⟨_, _, pre10354 _ ?_, hrun, hended, _, _, rfl, ?_, ⟨_, rfl⟩, hW, hsame.mono (by decide) (by decide)⟩
            · show Sp p e below T10353 (mkF m 33 (lt26 r0 r1 w_2 r1 (3 : Int32) (((0 : Int32) + (1 : Int32)) + (1 : Int32)) x_r1_2) [(.int (sp11x1 x_r1_2 x_r0_f0_f4 x_r0_f0_f3_F))]) _
              refine XS.ifNo X10353.here hx rfl (hb hby d10_33) rfl ((if0 _ _).trans (feq hc10355).1) ?_
              show Sp p e below T10353 (mkF m 36 (lt26 r0 r1 w_2 r1 (3 : Int32) (((0 : Int32) + (1 : Int32)) + (1 : Int32)) x_r1_2) []) _
              refine st10361 _ ?_
              show Sp p e below T10361 (mkF m 39 (lt26 r0 r1 w_2 r1 (3 : Int32) (((0 : Int32) + (1 : Int32)) + (1 : Int32)) x_r1_2) [(.ref w_1)]) _
              jvm_step X10361.here [X10361.here.top, hx, (hb hby d10_39), X10361.method', Bd.returns, Value.isRef, FieldType.isReference]
              first | (intro acts; rw [hr _ acts rfl rfl rfl]) | rw [hr _ _ rfl rfl rfl]
              exact Steps.refl _
            · show Q10x4 Z w_1 w_2 r0 r1 r0_f0 r0_f0_f3 r0_f1 r0_f1_f3 x_r0_f0_f4 k_r0_f0_f3 x_r0_f0_f3_n x_r0_f0_f3_F x_r0_f1_f4 k_r0_f1_f3 x_r0_f1_f3_n x_r0_f1_f3_F k_r1 x_r1_0 x_r1_1 x_r1_2 h0 n0 _ T10361.heap _
              rw [e10361]
              exact ⟨by unfold sp10x4; rw [if_pos hc10303, if_neg hc10307, if_pos hc10346, if_pos hc10350, if_neg hc10355], N10353, rfl⟩
        · obtain ⟨T10362, X10362, e10362, st10362⟩ := getS2 X10348 hx hZ hown (host := "") (Or.inl (hw _ (tk 92 rfl))) Via.refl e10348 (S_2.ext O0.2) (g := (mkF m 52 (lt26 r0 r1 w_2 r1 (3 : Int32) ((0 : Int32) + (1 : Int32)) x_r1_1) [])) rfl (hb hby d10_52)
          obtain ⟨cl10363, Ar10363, qa10363, Sa10363, Ma10363, Ha10363, Ga10363⟩ := id V_r1
          have hin10363 : ¬ ((((0 : Int32) + (1 : Int32)) + (1 : Int32)) < 0 ∨ cl10363.slots.size ≤ ((((0 : Int32) + (1 : Int32)) + (1 : Int32))).toNatClampNeg) := by  exact inb_of Sa10363 ⟨by decide, by decide⟩
          have hat10363 : cl10363.slots[((((0 : Int32) + (1 : Int32)) + (1 : Int32))).toNatClampNeg]? = some (.int x_r1_2) := Has.at Ha10363 hin10363 (by rfl)
          obtain ⟨T10364, X10364, e10364, st10364⟩ := getF X10362 hx hZ hown (host := "") (Or.inl (hw _ (tk 33 rfl))) Via.refl e10362 F_denied_r0 (g := (mkF m 25 (lt26 r0 r1 w_2 r1 (3 : Int32) (((0 : Int32) + (1 : Int32)) + (1 : Int32)) x_r1_2) [(.ref r0)])) rfl rfl (hb hby d10_25)
          obtain ⟨cq10365, kq10365, q10365a, q10365b, q10365c⟩ := isOf hZ e10364 E_r0_f0
          obtain ⟨_, _, ⟨T10365, L10365, k10365, n10365⟩, -, X10365, ⟨Lc10365, hQ10365, l10365, y10365, z10365⟩, st10365⟩ := X10364.virtualBack hx (y := Y37) (z := Y37) hown (mvT hZ (hw _ (tk 63 rfl))) (mvT hZ (hw _ (tk 64 rfl))) (notFace_of_selects (args := #[]) (mvT hZ (hw _ (tk 66 rfl)))) (mvT hZ (hw _ (tk 66 rfl))) (mvT hZ (hw _ (tk 65 rfl))) (by decide) (backOf (W := 0) (rm11x1 l Z a0 hw hv [] w_1 w_2 hS0 r0_f0 x_r1_2 r0_f0_f3 x_r0_f0_f4 k_r0_f0_f3 x_r0_f0_f3_n x_r0_f0_f3_F h0 n0 O0 g_r0_f0 g_r0_f0_f3 E_r0_f0 F_words_r0_f0 F_wordsInUse_r0_f0 V_r0_f0_f3 ne_r0_f0_r0_f0_f3 as4 as5 as7) hZ (hw _ (tk 67 rfl)) (hw _ (tk 11 rfl)) (by decide) (by decide)) q10365a q10365c (g := (mkF m 30 (lt26 r0 r1 w_2 r1 (3 : Int32) (((0 : Int32) + (1 : Int32)) + (1 : Int32)) x_r1_2) [(.int x_r1_2), (.ref r0_f0)])) rfl (by rw [hml]; rfl) (Steps.refl _) (argsL := [(.int x_r1_2)]) (rest := []) (lenOf pd_6 rfl) rfl (by show 2 * 0 + _ ≤ _; exact Nat.le_of_eq rfl) (hb hby d10_30) (fun _ _ => ⟨rfl, e10364, (by decide : 0 + 0 ≤ _), (by decide : 0 + 0 ≤ _)⟩)
          dsimp only [Pt.U, Pt.locs, Pt.cells, Pt.slots] at X10365 l10365 y10365 z10365 st10365 hQ10365
          subst l10365 y10365 z10365
          obtain ⟨rv10365, N10365q, e10365⟩ := hQ10365
          subst rv10365
          have N10365 := Fr.app N10348 N10365q
          have pre10366 : Cm p e below E0 (T10365.setTop (mkF m 33 (lt26 r0 r1 w_2 r1 (3 : Int32) (((0 : Int32) + (1 : Int32)) + (1 : Int32)) x_r1_2) [(.int (sp11x1 x_r1_2 x_r0_f0_f4 x_r0_f0_f3_F))])) := fun t kt => by
            refine pre10349 t ?_
            show Sp p e below T10348 (mkF m 49 (lt26 r0 r1 w_2 r1 (3 : Int32) ((0 : Int32) + (1 : Int32)) x_r1_1) [(.int (sp11x1 x_r1_1 x_r0_f1_f4 x_r0_f1_f3_F))]) _
            refine XS.ifNo X10348.here hx rfl (hb hby d10_49) rfl ((if0 _ _).trans (feq hc10350).1) ?_
            show Sp p e below T10348 (mkF m 52 (lt26 r0 r1 w_2 r1 (3 : Int32) ((0 : Int32) + (1 : Int32)) x_r1_1) []) _
            refine st10362 _ ?_
            show Sp p e below T10362 (mkF m 55 (lt26 r0 r1 w_2 r1 (3 : Int32) ((0 : Int32) + (1 : Int32)) x_r1_1) [(.ref w_2)]) _
            refine XS.astoreN X10362.here hx rfl (hb hby d10_55) rfl rfl (l' := (lt26 r0 r1 w_2 r1 (3 : Int32) ((0 : Int32) + (1 : Int32)) x_r1_1)) rfl ?_
            refine XS.iinc X10362.here hx rfl (hb hby d10_56) rfl (l' := (lt26 r0 r1 w_2 r1 (3 : Int32) (((0 : Int32) + (1 : Int32)) + (1 : Int32)) x_r1_1)) rfl ?_
            show Sp p e below T10362 (mkF m 59 (lt26 r0 r1 w_2 r1 (3 : Int32) (((0 : Int32) + (1 : Int32)) + (1 : Int32)) x_r1_1) []) _
            refine XS.goto X10362.here hx rfl (pc0 := 59) (pc' := 11) rfl (hb hby d10_59) (by decide) (by decide) ?_
            show Sp p e below T10362 (mkF m 11 (lt26 r0 r1 w_2 r1 (3 : Int32) (((0 : Int32) + (1 : Int32)) + (1 : Int32)) x_r1_1) []) _
            refine XS.iload X10362.here hx rfl (hb hby d10_11) rfl ?_
            refine XS.iload X10362.here hx rfl (hb hby d10_13) rfl ?_
            show Sp p e below T10362 (mkF m 15 (lt26 r0 r1 w_2 r1 (3 : Int32) (((0 : Int32) + (1 : Int32)) + (1 : Int32)) x_r1_1) [(.int (3 : Int32)), (.int (((0 : Int32) + (1 : Int32)) + (1 : Int32)))]) _
            refine XS.icmpNo X10362.here hx rfl (hb hby d10_15) rfl (tlt (by decide : ((((0 : Int32) + (1 : Int32)) + (1 : Int32)) < (3 : Int32)))).2.1 ?_
            show Sp p e below T10362 (mkF m 18 (lt26 r0 r1 w_2 r1 (3 : Int32) (((0 : Int32) + (1 : Int32)) + (1 : Int32)) x_r1_1) []) _
            refine XS.aloadN X10362.here hx rfl (hb hby d10_18) rfl rfl ?_
            refine XS.iload X10362.here hx rfl (hb hby d10_19) rfl ?_
            show Sp p e below T10362 (mkF m 21 (lt26 r0 r1 w_2 r1 (3 : Int32) (((0 : Int32) + (1 : Int32)) + (1 : Int32)) x_r1_1) [(.int (((0 : Int32) + (1 : Int32)) + (1 : Int32))), (.ref r1)]) _
            refine X10362.iaload hx (j := (((0 : Int32) + (1 : Int32)) + (1 : Int32))) (v := (.int x_r1_2)) (by rw [e10362]; exact Ar10363.1) (State.isArrayOf_alike hZ.alike Ar10363.2.1) Ar10363.2.2 hin10363 hat10363 (g := (mkF m 21 (lt26 r0 r1 w_2 r1 (3 : Int32) (((0 : Int32) + (1 : Int32)) + (1 : Int32)) x_r1_1) [(.int (((0 : Int32) + (1 : Int32)) + (1 : Int32))), (.ref r1)])) rfl rfl (hb hby d10_21) _ ?_
            show Sp p e below T10362 (mkF m 22 (lt26 r0 r1 w_2 r1 (3 : Int32) (((0 : Int32) + (1 : Int32)) + (1 : Int32)) x_r1_1) [(.int x_r1_2)]) _
            refine XS.istore X10362.here hx rfl (hb hby d10_22) rfl (l' := (lt26 r0 r1 w_2 r1 (3 : Int32) (((0 : Int32) + (1 : Int32)) + (1 : Int32)) x_r1_2)) rfl ?_
            refine XS.aloadN X10362.here hx rfl (hb hby d10_24) rfl rfl ?_
            show Sp p e below T10362 (mkF m 25 (lt26 r0 r1 w_2 r1 (3 : Int32) (((0 : Int32) + (1 : Int32)) + (1 : Int32)) x_r1_2) [(.ref r0)]) _
            refine st10364 _ ?_
            show Sp p e below T10364 (mkF m 28 (lt26 r0 r1 w_2 r1 (3 : Int32) (((0 : Int32) + (1 : Int32)) + (1 : Int32)) x_r1_2) [(.ref r0_f0)]) _
            refine XS.iload X10364.here hx rfl (hb hby d10_28) rfl ?_
            show Sp p e below T10364 (mkF m 30 (lt26 r0 r1 w_2 r1 (3 : Int32) (((0 : Int32) + (1 : Int32)) + (1 : Int32)) x_r1_2) [(.int x_r1_2), (.ref r0_f0)]) _
            refine st10365.trans ?_
            show Sp p e below T10365 (mkF m 33 (lt26 r0 r1 w_2 r1 (3 : Int32) (((0 : Int32) + (1 : Int32)) + (1 : Int32)) x_r1_2) [(.int (sp11x1 x_r1_2 x_r0_f0_f4 x_r0_f0_f3_F))]) _
            exact kt
          by_cases hc10367 : (sp11x1 x_r1_2 x_r0_f0_f4 x_r0_f0_f3_F) = (0 : Int32)
          · obtain ⟨T10368, X10368, e10368, st10368⟩ := getF X10365 hx hZ hown (host := "") (Or.inl (hw _ (tk 31 rfl))) Via.refl e10365 F_permitted_r0 (g := (mkF m 41 (lt26 r0 r1 w_2 r1 (3 : Int32) (((0 : Int32) + (1 : Int32)) + (1 : Int32)) x_r1_2) [(.ref r0)])) rfl rfl (hb hby d10_41)
            obtain ⟨cq10369, kq10369, q10369a, q10369b, q10369c⟩ := isOf hZ e10368 E_r0_f1
            obtain ⟨_, _, ⟨T10369, L10369, k10369, n10369⟩, -, X10369, ⟨Lc10369, hQ10369, l10369, y10369, z10369⟩, st10369⟩ := X10368.virtualBack hx (y := Y37) (z := Y37) hown (mvT hZ (hw _ (tk 63 rfl))) (mvT hZ (hw _ (tk 64 rfl))) (notFace_of_selects (args := #[]) (mvT hZ (hw _ (tk 66 rfl)))) (mvT hZ (hw _ (tk 66 rfl))) (mvT hZ (hw _ (tk 65 rfl))) (by decide) (backOf (W := 0) (rm11x1 l Z a0 hw hv [] w_1 w_2 hS0 r0_f1 x_r1_2 r0_f1_f3 x_r0_f1_f4 k_r0_f1_f3 x_r0_f1_f3_n x_r0_f1_f3_F h0 n0 O0 g_r0_f1 g_r0_f1_f3 E_r0_f1 F_words_r0_f1 F_wordsInUse_r0_f1 V_r0_f1_f3 ne_r0_f1_r0_f1_f3 as4 as5 as6) hZ (hw _ (tk 67 rfl)) (hw _ (tk 11 rfl)) (by decide) (by decide)) q10369a q10369c (g := (mkF m 46 (lt26 r0 r1 w_2 r1 (3 : Int32) (((0 : Int32) + (1 : Int32)) + (1 : Int32)) x_r1_2) [(.int x_r1_2), (.ref r0_f1)])) rfl (by rw [hml]; rfl) (Steps.refl _) (argsL := [(.int x_r1_2)]) (rest := []) (lenOf pd_6 rfl) rfl (by show 2 * 0 + _ ≤ _; exact Nat.le_of_eq rfl) (hb hby d10_46) (fun _ _ => ⟨rfl, e10368, (by decide : 0 + 0 ≤ _), (by decide : 0 + 0 ≤ _)⟩)
            dsimp only [Pt.U, Pt.locs, Pt.cells, Pt.slots] at X10369 l10369 y10369 z10369 st10369 hQ10369
            subst l10369 y10369 z10369
            obtain ⟨rv10369, N10369q, e10369⟩ := hQ10369
            subst rv10369
            have N10369 := Fr.app N10365 N10369q
            have pre10370 : Cm p e below E0 (T10369.setTop (mkF m 49 (lt26 r0 r1 w_2 r1 (3 : Int32) (((0 : Int32) + (1 : Int32)) + (1 : Int32)) x_r1_2) [(.int (sp11x1 x_r1_2 x_r0_f1_f4 x_r0_f1_f3_F))])) := fun t kt => by
              refine pre10366 t ?_
              show Sp p e below T10365 (mkF m 33 (lt26 r0 r1 w_2 r1 (3 : Int32) (((0 : Int32) + (1 : Int32)) + (1 : Int32)) x_r1_2) [(.int (sp11x1 x_r1_2 x_r0_f0_f4 x_r0_f0_f3_F))]) _
              refine XS.ifYes X10365.here hx rfl (pc0 := 33) (pc' := 40) rfl (hb hby d10_33) rfl ((if0 _ _).trans (teq hc10367).1) (by decide) (by decide) ?_
              show Sp p e below T10365 (mkF m 40 (lt26 r0 r1 w_2 r1 (3 : Int32) (((0 : Int32) + (1 : Int32)) + (1 : Int32)) x_r1_2) []) _
              refine XS.aloadN X10365.here hx rfl (hb hby d10_40) rfl rfl ?_
              show Sp p e below T10365 (mkF m 41 (lt26 r0 r1 w_2 r1 (3 : Int32) (((0 : Int32) + (1 : Int32)) + (1 : Int32)) x_r1_2) [(.ref r0)]) _
              refine st10368 _ ?_
              show Sp p e below T10368 (mkF m 44 (lt26 r0 r1 w_2 r1 (3 : Int32) (((0 : Int32) + (1 : Int32)) + (1 : Int32)) x_r1_2) [(.ref r0_f1)]) _
              refine XS.iload X10368.here hx rfl (hb hby d10_44) rfl ?_
              show Sp p e below T10368 (mkF m 46 (lt26 r0 r1 w_2 r1 (3 : Int32) (((0 : Int32) + (1 : Int32)) + (1 : Int32)) x_r1_2) [(.int x_r1_2), (.ref r0_f1)]) _
              refine st10369.trans ?_
              show Sp p e below T10369 (mkF m 49 (lt26 r0 r1 w_2 r1 (3 : Int32) (((0 : Int32) + (1 : Int32)) + (1 : Int32)) x_r1_2) [(.int (sp11x1 x_r1_2 x_r0_f1_f4 x_r0_f1_f3_F))]) _
              exact kt
            by_cases hc10371 : (sp11x1 x_r1_2 x_r0_f1_f4 x_r0_f1_f3_F) = (0 : Int32)
            · obtain ⟨fs, hr, hrun, hended, hW, hsame⟩ := X10369.leave (v := some (.ref w_2)) (fun h => by rw [Bd.returns] at h; cases h)
              refine ⟨_, _, pre10370 _ ?_, hrun, hended, _, _, rfl, ?_, ⟨_, rfl⟩, hW, hsame.mono (by decide) (by decide)⟩
              · show Sp p e below T10369 (mkF m 49 (lt26 r0 r1 w_2 r1 (3 : Int32) (((0 : Int32) + (1 : Int32)) + (1 : Int32)) x_r1_2) [(.int (sp11x1 x_r1_2 x_r0_f1_f4 x_r0_f1_f3_F))]) _
                refine XS.ifYes X10369.here hx rfl (pc0 := 49) (pc' := 56) rfl (hb hby d10_49) rfl ((if0 _ _).trans (teq hc10371).1) (by decide) (by decide) ?_
                show Sp p e below T10369 (mkF m 56 (lt26 r0 r1 w_2 r1 (3 : Int32) (((0 : Int32) + (1 : Int32)) + (1 : Int32)) x_r1_2) []) _
                refine XS.iinc X10369.here hx rfl (hb hby d10_56) rfl (l' := (lt26 r0 r1 w_2 r1 (3 : Int32) ((((0 : Int32) + (1 : Int32)) + (1 : Int32)) + (1 : Int32)) x_r1_2)) rfl ?_
                show Sp p e below T10369 (mkF m 59 (lt26 r0 r1 w_2 r1 (3 : Int32) ((((0 : Int32) + (1 : Int32)) + (1 : Int32)) + (1 : Int32)) x_r1_2) []) _
                refine XS.goto X10369.here hx rfl (pc0 := 59) (pc' := 11) rfl (hb hby d10_59) (by decide) (by decide) ?_
                show Sp p e below T10369 (mkF m 11 (lt26 r0 r1 w_2 r1 (3 : Int32) ((((0 : Int32) + (1 : Int32)) + (1 : Int32)) + (1 : Int32)) x_r1_2) []) _
                refine XS.iload X10369.here hx rfl (hb hby d10_11) rfl ?_
                refine XS.iload X10369.here hx rfl (hb hby d10_13) rfl ?_
                show Sp p e below T10369 (mkF m 15 (lt26 r0 r1 w_2 r1 (3 : Int32) ((((0 : Int32) + (1 : Int32)) + (1 : Int32)) + (1 : Int32)) x_r1_2) [(.int (3 : Int32)), (.int ((((0 : Int32) + (1 : Int32)) + (1 : Int32)) + (1 : Int32)))]) _
                refine XS.icmpYes X10369.here hx rfl (pc0 := 15) (pc' := 62) rfl (hb hby d10_15) rfl (flt (by decide : ¬ (((((0 : Int32) + (1 : Int32)) + (1 : Int32)) + (1 : Int32)) < (3 : Int32)))).2.1 (by decide) (by decide) ?_
                show Sp p e below T10369 (mkF m 62 (lt26 r0 r1 w_2 r1 (3 : Int32) ((((0 : Int32) + (1 : Int32)) + (1 : Int32)) + (1 : Int32)) x_r1_2) []) _
                refine XS.aloadN X10369.here hx rfl (hb hby d10_62) rfl rfl ?_
                show Sp p e below T10369 (mkF m 63 (lt26 r0 r1 w_2 r1 (3 : Int32) ((((0 : Int32) + (1 : Int32)) + (1 : Int32)) + (1 : Int32)) x_r1_2) [(.ref w_2)]) _
                jvm_step X10369.here [X10369.here.top, hx, (hb hby d10_63), X10369.method', Bd.returns, Value.isRef, FieldType.isReference]
                first | (intro acts; rw [hr _ acts rfl rfl rfl]) | rw [hr _ _ rfl rfl rfl]
                exact Steps.refl _
              · show Q10x4 Z w_1 w_2 r0 r1 r0_f0 r0_f0_f3 r0_f1 r0_f1_f3 x_r0_f0_f4 k_r0_f0_f3 x_r0_f0_f3_n x_r0_f0_f3_F x_r0_f1_f4 k_r0_f1_f3 x_r0_f1_f3_n x_r0_f1_f3_F k_r1 x_r1_0 x_r1_1 x_r1_2 h0 n0 _ T10369.heap _
                rw [e10369]
                exact ⟨by unfold sp10x4; rw [if_pos hc10303, if_neg hc10307, if_pos hc10346, if_neg hc10350, if_pos hc10367, if_pos hc10371], N10369, rfl⟩
            · obtain ⟨T10372, X10372, e10372, st10372⟩ := getS2 X10369 hx hZ hown (host := "") (Or.inl (hw _ (tk 92 rfl))) Via.refl e10369 (S_2.ext O0.2) (g := (mkF m 52 (lt26 r0 r1 w_2 r1 (3 : Int32) (((0 : Int32) + (1 : Int32)) + (1 : Int32)) x_r1_2) [])) rfl (hb hby d10_52)
              obtain ⟨fs, hr, hrun, hended, hW, hsame⟩ := X10372.leave (v := some (.ref w_2)) (fun h => by rw [Bd.returns] at h; cases h)
              refine ⟨_, _, pre10370 _ ?_, hrun, hended, _, _, rfl, ?_, ⟨_, rfl⟩, hW, hsame.mono (by decide) (by decide)⟩
              · show Sp p e below T10369 (mkF m 49 (lt26 r0 r1 w_2 r1 (3 : Int32) (((0 : Int32) + (1 : Int32)) + (1 : Int32)) x_r1_2) [(.int (sp11x1 x_r1_2 x_r0_f1_f4 x_r0_f1_f3_F))]) _
                refine XS.ifNo X10369.here hx rfl (hb hby d10_49) rfl ((if0 _ _).trans (feq hc10371).1) ?_
                show Sp p e below T10369 (mkF m 52 (lt26 r0 r1 w_2 r1 (3 : Int32) (((0 : Int32) + (1 : Int32)) + (1 : Int32)) x_r1_2) []) _
                refine st10372 _ ?_
                show Sp p e below T10372 (mkF m 55 (lt26 r0 r1 w_2 r1 (3 : Int32) (((0 : Int32) + (1 : Int32)) + (1 : Int32)) x_r1_2) [(.ref w_2)]) _
                refine XS.astoreN X10372.here hx rfl (hb hby d10_55) rfl rfl (l' := (lt26 r0 r1 w_2 r1 (3 : Int32) (((0 : Int32) + (1 : Int32)) + (1 : Int32)) x_r1_2)) rfl ?_
                refine XS.iinc X10372.here hx rfl (hb hby d10_56) rfl (l' := (lt26 r0 r1 w_2 r1 (3 : Int32) ((((0 : Int32) + (1 : Int32)) + (1 : Int32)) + (1 : Int32)) x_r1_2)) rfl ?_
                show Sp p e below T10372 (mkF m 59 (lt26 r0 r1 w_2 r1 (3 : Int32) ((((0 : Int32) + (1 : Int32)) + (1 : Int32)) + (1 : Int32)) x_r1_2) []) _
                refine XS.goto X10372.here hx rfl (pc0 := 59) (pc' := 11) rfl (hb hby d10_59) (by decide) (by decide) ?_
                show Sp p e below T10372 (mkF m 11 (lt26 r0 r1 w_2 r1 (3 : Int32) ((((0 : Int32) + (1 : Int32)) + (1 : Int32)) + (1 : Int32)) x_r1_2) []) _
                refine XS.iload X10372.here hx rfl (hb hby d10_11) rfl ?_
                refine XS.iload X10372.here hx rfl (hb hby d10_13) rfl ?_
                show Sp p e below T10372 (mkF m 15 (lt26 r0 r1 w_2 r1 (3 : Int32) ((((0 : Int32) + (1 : Int32)) + (1 : Int32)) + (1 : Int32)) x_r1_2) [(.int (3 : Int32)), (.int ((((0 : Int32) + (1 : Int32)) + (1 : Int32)) + (1 : Int32)))]) _
                refine XS.icmpYes X10372.here hx rfl (pc0 := 15) (pc' := 62) rfl (hb hby d10_15) rfl (flt (by decide : ¬ (((((0 : Int32) + (1 : Int32)) + (1 : Int32)) + (1 : Int32)) < (3 : Int32)))).2.1 (by decide) (by decide) ?_
                show Sp p e below T10372 (mkF m 62 (lt26 r0 r1 w_2 r1 (3 : Int32) ((((0 : Int32) + (1 : Int32)) + (1 : Int32)) + (1 : Int32)) x_r1_2) []) _
                refine XS.aloadN X10372.here hx rfl (hb hby d10_62) rfl rfl ?_
                show Sp p e below T10372 (mkF m 63 (lt26 r0 r1 w_2 r1 (3 : Int32) ((((0 : Int32) + (1 : Int32)) + (1 : Int32)) + (1 : Int32)) x_r1_2) [(.ref w_2)]) _
                jvm_step X10372.here [X10372.here.top, hx, (hb hby d10_63), X10372.method', Bd.returns, Value.isRef, FieldType.isReference]
                first | (intro acts; rw [hr _ acts rfl rfl rfl]) | rw [hr _ _ rfl rfl rfl]
                exact Steps.refl _
              · show Q10x4 Z w_1 w_2 r0 r1 r0_f0 r0_f0_f3 r0_f1 r0_f1_f3 x_r0_f0_f4 k_r0_f0_f3 x_r0_f0_f3_n x_r0_f0_f3_F x_r0_f1_f4 k_r0_f1_f3 x_r0_f1_f3_n x_r0_f1_f3_F k_r1 x_r1_0 x_r1_1 x_r1_2 h0 n0 _ T10372.heap _
                rw [e10372]
                exact ⟨by unfold sp10x4; rw [if_pos hc10303, if_neg hc10307, if_pos hc10346, if_neg hc10350, if_pos hc10367, if_neg hc10371], N10369, rfl⟩
          · obtain ⟨T10373, X10373, e10373, st10373⟩ := getS2 X10365 hx hZ hown (host := "") (Or.inl (hw _ (tk 88 rfl))) Via.refl e10365 (S_1.ext O0.2) (g := (mkF m 36 (lt26 r0 r1 w_2 r1 (3 : Int32) (((0 : Int32) + (1 : Int32)) + (1 : Int32)) x_r1_2) [])) rfl (hb hby d10_36)
            obtain ⟨fs, hr, hrun, hended, hW, hsame⟩ := X10373.leave (v := some (.ref w_1)) (fun h => by rw [Bd.returns] at h; cases h)
            refine ⟨_, _, pre10366 _ ?_, hrun, hended, _, _, rfl, ?_, ⟨_, rfl⟩, hW, hsame.mono (by decide) (by decide)⟩
            · show Sp p e below T10365 (mkF m 33 (lt26 r0 r1 w_2 r1 (3 : Int32) (((0 : Int32) + (1 : Int32)) + (1 : Int32)) x_r1_2) [(.int (sp11x1 x_r1_2 x_r0_f0_f4 x_r0_f0_f3_F))]) _
              refine XS.ifNo X10365.here hx rfl (hb hby d10_33) rfl ((if0 _ _).trans (feq hc10367).1) ?_
              show Sp p e below T10365 (mkF m 36 (lt26 r0 r1 w_2 r1 (3 : Int32) (((0 : Int32) + (1 : Int32)) + (1 : Int32)) x_r1_2) []) _
              refine st10373 _ ?_
              show Sp p e below T10373 (mkF m 39 (lt26 r0 r1 w_2 r1 (3 : Int32) (((0 : Int32) + (1 : Int32)) + (1 : Int32)) x_r1_2) [(.ref w_1)]) _
              jvm_step X10373.here [X10373.here.top, hx, (hb hby d10_39), X10373.method', Bd.returns, Value.isRef, FieldType.isReference]
              first | (intro acts; rw [hr _ acts rfl rfl rfl]) | rw [hr _ _ rfl rfl rfl]
              exact Steps.refl _
            · show Q10x4 Z w_1 w_2 r0 r1 r0_f0 r0_f0_f3 r0_f1 r0_f1_f3 x_r0_f0_f4 k_r0_f0_f3 x_r0_f0_f3_n x_r0_f0_f3_F x_r0_f1_f4 k_r0_f1_f3 x_r0_f1_f3_n x_r0_f1_f3_F k_r1 x_r1_0 x_r1_1 x_r1_2 h0 n0 _ T10373.heap _
              rw [e10373]
              exact ⟨by unfold sp10x4; rw [if_pos hc10303, if_neg hc10307, if_pos hc10346, if_neg hc10350, if_neg hc10367], N10365, rfl⟩
      · obtain ⟨T10374, X10374, e10374, st10374⟩ := getS2 X10344 hx hZ hown (host := "") (Or.inl (hw _ (tk 88 rfl))) Via.refl e10344 (S_1.ext O0.2) (g := (mkF m 36 (lt26 r0 r1 w_2 r1 (3 : Int32) ((0 : Int32) + (1 : Int32)) x_r1_1) [])) rfl (hb hby d10_36)
        obtain ⟨fs, hr, hrun, hended, hW, hsame⟩ := X10374.leave (v := some (.ref w_1)) (fun h => by rw [Bd.returns] at h; cases h)
        refine ⟨_, _, pre10345 _ ?_, hrun, hended, _, _, rfl, ?_, ⟨_, rfl⟩, hW, hsame.mono (by decide) (by decide)⟩
        · show Sp p e below T10344 (mkF m 33 (lt26 r0 r1 w_2 r1 (3 : Int32) ((0 : Int32) + (1 : Int32)) x_r1_1) [(.int (sp11x1 x_r1_1 x_r0_f0_f4 x_r0_f0_f3_F))]) _
          refine XS.ifNo X10344.here hx rfl (hb hby d10_33) rfl ((if0 _ _).trans (feq hc10346).1) ?_
          show Sp p e below T10344 (mkF m 36 (lt26 r0 r1 w_2 r1 (3 : Int32) ((0 : Int32) + (1 : Int32)) x_r1_1) []) _
          refine st10374 _ ?_
          show Sp p e below T10374 (mkF m 39 (lt26 r0 r1 w_2 r1 (3 : Int32) ((0 : Int32) + (1 : Int32)) x_r1_1) [(.ref w_1)]) _
          jvm_step X10374.here [X10374.here.top, hx, (hb hby d10_39), X10374.method', Bd.returns, Value.isRef, FieldType.isReference]
          first | (intro acts; rw [hr _ acts rfl rfl rfl]) | rw [hr _ _ rfl rfl rfl]
          exact Steps.refl _
        · show Q10x4 Z w_1 w_2 r0 r1 r0_f0 r0_f0_f3 r0_f1 r0_f1_f3 x_r0_f0_f4 k_r0_f0_f3 x_r0_f0_f3_n x_r0_f0_f3_F x_r0_f1_f4 k_r0_f1_f3 x_r0_f1_f3_n x_r0_f1_f3_F k_r1 x_r1_0 x_r1_1 x_r1_2 h0 n0 _ T10374.heap _
          rw [e10374]
          exact ⟨by unfold sp10x4; rw [if_pos hc10303, if_neg hc10307, if_neg hc10346], N10344, rfl⟩
  · obtain ⟨T10375, X10375, e10375, st10375⟩ := getS2 X10301 hx hZ hown (host := "") (Or.inl (hw _ (tk 88 rfl))) Via.refl e10301 (S_1.ext O0.2) (g := (mkF m 36 (lt25 r0 r1 r1 (3 : Int32) (0 : Int32) x_r1_0) [])) rfl (hb hby d10_36)
    obtain ⟨fs, hr, hrun, hended, hW, hsame⟩ := X10375.leave (v := some (.ref w_1)) (fun h => by rw [Bd.returns] at h; cases h)
    refine ⟨_, _, pre10302 _ ?_, hrun, hended, _, _, rfl, ?_, ⟨_, rfl⟩, hW, hsame.mono (by decide) (by decide)⟩
    · show Sp p e below T10301 (mkF m 33 (lt25 r0 r1 r1 (3 : Int32) (0 : Int32) x_r1_0) [(.int (sp11x1 x_r1_0 x_r0_f0_f4 x_r0_f0_f3_F))]) _
      refine XS.ifNo X10301.here hx rfl (hb hby d10_33) rfl ((if0 _ _).trans (feq hc10303).1) ?_
      show Sp p e below T10301 (mkF m 36 (lt25 r0 r1 r1 (3 : Int32) (0 : Int32) x_r1_0) []) _
      refine st10375 _ ?_
      show Sp p e below T10375 (mkF m 39 (lt25 r0 r1 r1 (3 : Int32) (0 : Int32) x_r1_0) [(.ref w_1)]) _
      jvm_step X10375.here [X10375.here.top, hx, (hb hby d10_39), X10375.method', Bd.returns, Value.isRef, FieldType.isReference]
      first | (intro acts; rw [hr _ acts rfl rfl rfl]) | rw [hr _ _ rfl rfl rfl]
      exact Steps.refl _
    · show Q10x4 Z w_1 w_2 r0 r1 r0_f0 r0_f0_f3 r0_f1 r0_f1_f3 x_r0_f0_f4 k_r0_f0_f3 x_r0_f0_f3_n x_r0_f0_f3_F x_r0_f1_f4 k_r0_f1_f3 x_r0_f1_f3_n x_r0_f1_f3_F k_r1 x_r1_0 x_r1_1 x_r1_2 h0 n0 _ T10375.heap _
      rw [e10375]
      exact ⟨by unfold sp10x4; rw [if_neg hc10303], N10301, rfl⟩
theorem isr10x4 (w_1 : Addr) (w_2 : Addr) (x_r0_f0_f4 : Int32) (x_r0_f0_f3_F : Nat → Int64) (x_r0_f1_f4 : Int32) (x_r0_f1_f3_F : Nat → Int64) (x_r1_0 : Int32) (x_r1_1 : Int32) (x_r1_2 : Int32) : (sp10x4 w_1 w_2 x_r0_f0_f4 x_r0_f0_f3_F x_r0_f1_f4 x_r0_f1_f3_F x_r1_0 x_r1_1 x_r1_2).isRef = true := (own_iteR (own_iteR (own_iteR (own_iteR (own_iteR (own_iteR rfl rfl) rfl) (own_iteR (own_iteR rfl rfl) rfl)) rfl) (own_iteR (own_iteR (own_iteR (own_iteR rfl rfl) rfl) (own_iteR (own_iteR rfl rfl) rfl)) rfl)) rfl)
theorem own_lcmp (a : Int64) : lcmpW a 0 = 0 ↔ a = 0 := by
  unfold lcmpW
  split
  · rename_i h
    constructor
    · intro q; exact absurd q (by decide)
    · intro q; subst q; exact absurd h (by decide)
  · split
    · rename_i h; simp [h]
    · rename_i h; simp [h]
theorem own_and1 (w : Int64) (r : Nat) (hr : r < 64) (b : Int64) (hb : b.toBitVec = 1#64 <<< r) : w &&& b = 0 ↔ w.toBitVec.getLsbD r = false := by
  constructor
  · intro h
    have h : w.toBitVec &&& b.toBitVec = 0#64 := by rw [← Int64.toBitVec_and, h]; rfl
    have := congrArg (fun z : BitVec 64 => z.getLsbD r) h
    simp [hb] at this
    by_cases q : w.toBitVec.getLsbD r = true
    · have := this q; omega
    · simpa using q
  · intro h
    apply Int64.toBitVec_inj.mp
    rw [Int64.toBitVec_and, hb]
    apply BitVec.eq_of_getLsbD_eq
    intro i hi
    by_cases e : i = r
    · subst e; simp [h]
    · have : (1#64 <<< r).getLsbD i = false := by
        simp only [BitVec.getLsbD_shiftLeft, BitVec.getLsbD_one]
        simp; omega
      simp [this]
theorem own_has (mask : Int32) : ∀ o : Nat, o < 8 → sp12 mask (Int32.ofNat o) = if (decide (o < 4) && mask.toBitVec.getLsbD o) = true then 1 else 0 := by
  intro o ho
  have key : ∀ o : Nat, o < 4 → ((((mask.toUInt32 >>> ((Int32.ofNat o) &&& 31).toUInt32).toInt32) &&& (1 : Int32)) = (0 : Int32) ↔ mask.toBitVec.getLsbD o = false) := by
    intro o ho
    have hsh : ((mask.toUInt32 >>> ((Int32.ofNat o) &&& 31).toUInt32).toInt32).toBitVec = mask.toBitVec >>> o := by
      match o, ho with
      | 0, _ => rfl
      | 1, _ => rfl
      | 2, _ => rfl
      | 3, _ => rfl
    have := own_bit0 (mask := (mask.toUInt32 >>> ((Int32.ofNat o) &&& 31).toUInt32).toInt32) (m := 1) (k := 0) rfl (by decide)
    rw [this, hsh]; simp
  unfold sp12
  by_cases h4 : o < 4
  · have : Int32.ofNat o < (4 : Int32) := by
      match o, h4 with
      | 0, _ => decide
      | 1, _ => decide
      | 2, _ => decide
      | 3, _ => decide
    rw [if_pos this]
    simp only [h4, decide_true, Bool.true_and]
    by_cases hb : mask.toBitVec.getLsbD o = true
    · rw [if_neg (by rw [key o h4, hb]; decide), if_pos hb]
    · rw [if_pos ((key o h4).mpr (by simpa using hb)), if_neg hb]
  · have : ¬ Int32.ofNat o < (4 : Int32) := by
      match o, ho, h4 with
      | 4, _, _ => decide
      | 5, _, _ => decide
      | 6, _, _ => decide
      | 7, _, _ => decide
      | 0, _, h => exact absurd (by decide) h
      | 1, _, h => exact absurd (by decide) h
      | 2, _, h => exact absurd (by decide) h
      | 3, _, h => exact absurd (by decide) h
    rw [if_neg this]
    simp [h4]
theorem own_get {B mask u o : Int32} {F : Nat → Int64} (hB : 0 ≤ B.toInt ∧ B.toInt ≤ 15555) (I : InvC B mask 4 u F) (r : 0 ≤ o.toInt ∧ o.toInt < 8) : sp11x1 (B + o) u F = sp12 mask o := by
  obtain ⟨n, hn⟩ : ∃ n : Nat, n = o.toInt.toNat := ⟨_, rfl⟩
  have eo : o = Int32.ofNat n := Int32.toInt_inj.mp (by
    have : (Int32.ofNat n).toInt = n := by rw [Int32.toInt_ofNat_of_lt]; omega
    rw [this]; omega)
  have h8 : n < 8 := by omega
  have hadd := own_Bk hB o _ rfl (by omega)
  have hj : ((B + o) >>> ((6 : Int32) &&& 31)).toInt = (B.toInt + (n : Int)) / 64 := by rw [own_wi, hadd]; congr 1; omega
  have en := own_jn (k := n) hB.1 hj
  have es := own_shl (B + o) (by omega)
  have e2 : (B + o).toInt.toNat % 64 = (B.toInt.toNat + n) % 64 := by rw [hadd]; omega
  rw [e2] at es
  have hI := I.2 n h8
  rw [eo, own_has mask n h8, ← hI, ← eo]
  unfold sp11x1
  rw [en]
  have hk := own_and1 (F ((B.toInt.toNat + n) / 64)) ((B.toInt.toNat + n) % 64) (by omega) _ es
  by_cases hu : ((B + o) >>> ((6 : Int32) &&& 31)) < u
  · rw [if_pos hu]
    by_cases hb : (F ((B.toInt.toNat + n) / 64)).toBitVec.getLsbD ((B.toInt.toNat + n) % 64) = true
    · rw [if_neg (by rw [own_lcmp, hk, hb]; decide), if_pos hb]
    · rw [if_pos (by rw [own_lcmp, hk]; simpa using hb), if_neg hb]
  · rw [if_neg hu]
    rw [Int32.lt_iff_toInt_lt, hj] at hu
    rw [I.1 _ (by omega)]
    simp
def anL (dn pm : Addr) (p d : Int32) : List Int32 → Value → Value
  | [], v => v
  | o :: r, v => if sp12 d o = 0 then anL dn pm p d r (if sp12 p o = 0 then v else .ref pm) else .ref dn

def anyM (m : Int32) : List Int32 → Int32
  | [] => 0
  | o :: r => if sp12 m o = 0 then anyM m r else 1
theorem own_anL (dn pm : Addr) (p d : Int32) : ∀ (L : List Int32), anL dn pm p d L .null = if anyM d L = 0 then (if anyM p L = 0 then .null else .ref pm) else .ref dn := by
  have key : ∀ (L : List Int32) (v : Value), (v = .null ∨ v = .ref pm) → anL dn pm p d L v = if anyM d L = 0 then (if anyM p L = 0 then v else .ref pm) else .ref dn := by
    intro L
    induction L with
    | nil => intro v hv; simp [anL, anyM]
    | cons o r ih =>
      intro v hv
      unfold anL anyM
      by_cases h1 : sp12 d o = 0
      · rw [if_pos h1, if_pos h1]
        by_cases h2 : sp12 p o = 0
        · rw [if_pos h2, if_pos h2]; exact ih v hv
        · rw [if_neg h2, if_neg h2, ih _ (Or.inr rfl)]; simp
      · rw [if_neg h1, if_neg h1]; simp
  exact fun L => key L .null (Or.inl rfl)
theorem anL_ref (dn pm : Addr) (p d : Int32) : ∀ (L : List Int32) {v : Value}, v.isRef = true → (anL dn pm p d L v).isRef = true
  | [], _, h => h
  | o :: r, v, h => by
    unfold anL
    split
    · exact anL_ref dn pm p d r (by split <;> first | exact h | rfl)
    · rfl
theorem own_ans1 {dn pm : Addr} {B p d up ud o0 : Int32} {Fp Fd : Nat → Int64} (hB : 0 ≤ B.toInt ∧ B.toInt ≤ 15555) (Ip : InvC B p 4 up Fp) (Id : InvC B d 4 ud Fd) (r0 : 0 ≤ o0.toInt ∧ o0.toInt < 8) : sp10x2 dn pm ud Fd up Fp (B + o0) = anL dn pm p d [o0] .null := by
  unfold sp10x2
  simp only [own_get hB Ip r0, own_get hB Id r0, anL]
  all_goals (repeat' split) <;> first | rfl | simp_all
theorem own_ans2 {dn pm : Addr} {B p d up ud o0 o1 : Int32} {Fp Fd : Nat → Int64} (hB : 0 ≤ B.toInt ∧ B.toInt ≤ 15555) (Ip : InvC B p 4 up Fp) (Id : InvC B d 4 ud Fd) (r0 : 0 ≤ o0.toInt ∧ o0.toInt < 8) (r1 : 0 ≤ o1.toInt ∧ o1.toInt < 8) : sp10x3 dn pm ud Fd up Fp (B + o0) (B + o1) = anL dn pm p d [o0, o1] .null := by
  unfold sp10x3
  simp only [own_get hB Ip r0, own_get hB Id r0, own_get hB Ip r1, own_get hB Id r1, anL]
  all_goals (repeat' split) <;> first | rfl | simp_all
theorem own_ans3 {dn pm : Addr} {B p d up ud o0 o1 o2 : Int32} {Fp Fd : Nat → Int64} (hB : 0 ≤ B.toInt ∧ B.toInt ≤ 15555) (Ip : InvC B p 4 up Fp) (Id : InvC B d 4 ud Fd) (r0 : 0 ≤ o0.toInt ∧ o0.toInt < 8) (r1 : 0 ≤ o1.toInt ∧ o1.toInt < 8) (r2 : 0 ≤ o2.toInt ∧ o2.toInt < 8) : sp10x4 dn pm ud Fd up Fp (B + o0) (B + o1) (B + o2) = anL dn pm p d [o0, o1, o2] .null := by
  unfold sp10x4
  simp only [own_get hB Ip r0, own_get hB Id r0, own_get hB Ip r1, own_get hB Id r1, own_get hB Ip r2, own_get hB Id r2, anL]
  all_goals (repeat' split) <;> first | rfl | simp_all
theorem pn_0 : plainName "com/example/vetd/vetd/LinesAnswerPinLaw" = true := by first | (simp [plainName, overriddenIn]; done) | decide +kernel
theorem ef_0 (m : MethodId) (p0 : Int32) (p1 : Int32) (p2 : Int32) (p3 : Int32) (p4 : Int32) : entryFrame m #[(.int p0), (.int p1), (.int p2), (.int p3), (.int p4)] maxLocals = mkF m 0 #[.val (.int p0), .val (.int p1), .val (.int p2), .val (.int p3), .val (.int p4), .unset, .unset, .unset, .unset, .unset, .unset, .unset, .unset, .unset, .unset, .unset] [] := by first | (simp [entryFrame, mkF, argsToLocals, Value.category, maxLocals]; done) | rfl
def Q0 (Z : State) (w_1 : Addr) (w_2 : Addr) (p0 : Int32) (p1 : Int32) (p2 : Int32) (p3 : Int32) (p4 : Int32) (h0 : Heap) (n0 : Nat) (v : Option Value) (h : Heap) (L : List Loc) : Prop := v = some (.int (1 : Int32)) ∧ Fr n0 L ∧ True
set_option maxRecDepth 65536 in
set_option maxHeartbeats 40000000 in
theorem rm0 (l : Launch) (Z : State) (a0 : Array Value) (hw : ∀ d ∈ tables_1, d.before a0 Z = true) (hv : ∀ d ∈ jdkStatics_1, d.before a0 Z = true) (ws : List Jvm.Cond) (w_1 : Addr) (w_2 : Addr) (hS : StF Z w_1 w_2) (p0 : Int32) (p1 : Int32) (p2 : Int32) (p3 : Int32) (p4 : Int32) (h0 : Heap) (n0 : Nat) (O0 : Old Z n0 h0) :
    MetFree l x (head1 (Jvm.Cond.code x code maxLocals ret :: ws) room_1) (fun a U => a = #[(.int p0), (.int p1), (.int p2), (.int p3), (.int p4)] ∧ Z.Warmed39 U.vm ∧ U.heap = h0) (fun _ _ _ _ _ => True) (fun _ U o U' => ∃ v L, o = .returned v ∧ Q0 Z w_1 w_2 p0 p1 p2 p3 p4 h0 n0 v U'.heap L ∧ FrameEnd U o U' L room_1.cells room_1.slots) := by
  refine MetFree.of_bodySF (plainFor_of_name pn_0) hisR ?_
  intro p e s m args below meth c s₁ Bd hml0 hP hK
  obtain ⟨rfl, hZ, hh⟩ := hP
  have hx := Bd.exec
  have hby := Bd.bytes
  have hml : c.maxLocals = 16 := hml0
  have hown : s.vm.findClass "com/example/vetd/vetd/LinesAnswerPinLaw" = some m.cls := findClass_of_methodNamed Bd.named
  have hnm := (name_of_methodNamed Bd.named Bd.method).1
  have X0 : Stand p l e room_1 s m #[(.int p0), (.int p1), (.int p2), (.int p3), (.int p4)] below meth c s₁ [] 0 0 := Stand.of_body Bd
  have e0 : s₁.heap = h0 := by rw [← hh, Bd.state]; rfl
  have N0 := Fr.nil n0
  have hS0 := hS
  obtain ⟨S_1, E_1, S_2, E_2, S_3⟩ := hS
  have pre0 : ∀ t, Steps p.tables e below (s₁.setTop (mkF m 0 #[.val (.int p0), .val (.int p1), .val (.int p2), .val (.int p3), .val (.int p4), .unset, .unset, .unset, .unset, .unset, .unset, .unset, .unset, .unset, .unset, .unset] [])) t → Steps p.tables e below (s₁.setTop (entryFrame m #[(.int p0), (.int p1), (.int p2), (.int p3), (.int p4)] maxLocals)) t := fun t k => castTop (ef_0 m p0 p1 p2 p3 p4) k
  generalize hE0 : s₁.setTop (entryFrame m #[(.int p0), (.int p1), (.int p2), (.int p3), (.int p4)] maxLocals) = E0 at pre0 ⊢
  have pre3 : Cm p e below E0 (s₁.setTop (mkF m 11 (lt2 p0 p1 p2 p3 p4 ((p4 &&& (255 : Int32)) * (61 : Int32))) [])) := fun t kt => by
    refine pre0 t ?_
    show Sp p e below s₁ (mkF m 0 (lt1 p0 p1 p2 p3 p4) []) _
    refine XS.iload X0.here hx rfl (hb hby at_0) rfl ?_
    refine XS.sipush X0.here hx rfl (hb hby at_2) ?_
    show Sp p e below s₁ (mkF m 5 (lt1 p0 p1 p2 p3 p4) [(.int (255 : Int32)), (.int p4)]) _
    refine XS.iand X0.here hx rfl (hb hby at_5) rfl ?_
    refine XS.bipush X0.here hx rfl (hb hby at_6) ?_
    show Sp p e below s₁ (mkF m 8 (lt1 p0 p1 p2 p3 p4) [(.int (61 : Int32)), (.int (p4 &&& (255 : Int32)))]) _
    refine XS.imul X0.here hx rfl (hb hby at_8) rfl ?_
    refine XS.istore X0.here hx rfl (hb hby at_9) rfl (l' := (lt2 p0 p1 p2 p3 p4 ((p4 &&& (255 : Int32)) * (61 : Int32)))) rfl ?_
    show Sp p e below s₁ (mkF m 11 (lt2 p0 p1 p2 p3 p4 ((p4 &&& (255 : Int32)) * (61 : Int32))) []) _
    exact kt
  obtain ⟨v5, d_v5⟩ : ∃ z : Int32, z = ((p4 &&& (255 : Int32)) * (61 : Int32)) := ⟨_, rfl⟩
  have pre4 : Cm p e below E0 (s₁.setTop (mkF m 11 (lt2 p0 p1 p2 p3 p4 v5) [])) := fun t kt => pre3 t (by rw [← d_v5]; exact kt)
  have hz0 : (0 : Int32).toInt = 0 := rfl
  have hz1 : (1 : Int32).toInt = 1 := rfl
  have hB : 0 ≤ v5.toInt ∧ v5.toInt ≤ 15555 := by rw [d_v5]; exact own_B p4
  have hj_0 : ((v5 >>> ((6 : Int32) &&& 31))).toInt = ((v5).toInt + 0) / 64 := by rw [own_wi]; simp
  have hn_0 : (((v5 >>> ((6 : Int32) &&& 31)) + (1 : Int32))).toInt = ((v5).toInt + 0) / 64 + 1 := own_inc hj_0 (by omega)
  have hi_1 : ((v5 + (1 : Int32))).toInt = (v5).toInt + 1 := own_Bk hB (1 : Int32) 1 rfl (by decide)
  have hj_1 : (((v5 + (1 : Int32)) >>> ((6 : Int32) &&& 31))).toInt = ((v5).toInt + 1) / 64 := by rw [own_wi]; rw [hi_1]
  have hn_1 : ((((v5 + (1 : Int32)) >>> ((6 : Int32) &&& 31)) + (1 : Int32))).toInt = ((v5).toInt + 1) / 64 + 1 := own_inc hj_1 (by omega)
  have hi_2 : ((v5 + (2 : Int32))).toInt = (v5).toInt + 2 := own_Bk hB (2 : Int32) 2 rfl (by decide)
  have hj_2 : (((v5 + (2 : Int32)) >>> ((6 : Int32) &&& 31))).toInt = ((v5).toInt + 2) / 64 := by rw [own_wi]; rw [hi_2]
  have hn_2 : ((((v5 + (2 : Int32)) >>> ((6 : Int32) &&& 31)) + (1 : Int32))).toInt = ((v5).toInt + 2) / 64 + 1 := own_inc hj_2 (by omega)
  have hi_3 : ((v5 + (3 : Int32))).toInt = (v5).toInt + 3 := own_Bk hB (3 : Int32) 3 rfl (by decide)
  have hj_3 : (((v5 + (3 : Int32)) >>> ((6 : Int32) &&& 31))).toInt = ((v5).toInt + 3) / 64 := by rw [own_wi]; rw [hi_3]
  have hn_3 : ((((v5 + (3 : Int32)) >>> ((6 : Int32) &&& 31)) + (1 : Int32))).toInt = ((v5).toInt + 3) / 64 + 1 := own_inc hj_3 (by omega)
  obtain ⟨T5, h5, X5, e5, E5, A5, D5, -, st5⟩ := newO X0 hx hZ hown (hw _ (tk 0 rfl)) (hw _ (tk 1 rfl)) (hw _ (tk 2 rfl)) e0 (g := (mkF m 11 (lt2 p0 p1 p2 p3 p4 v5) [])) rfl (hb hby at_11) (by decide) (by decide)
  obtain ⟨b5, g5⟩ : ∃ z, z = h0.size := ⟨_, rfl⟩
  rw [← g5] at A5 D5 st5
  have g_b5 : n0 ≤ b5 := Nat.le_trans (own_old O0) (Nat.le_of_eq g5.symm)
  have O5 : Old Z n0 h5 := O0.ext E5
  have F_permitted_b5 : Fld Z h5 b5 "com/example/vetd/vetd/Policy$Lines" "permitted" "Ljava/util/BitSet;" .null := D5 (Or.inr (hw _ (tk 32 rfl))) (ty := (.object "java/util/BitSet")) (by decide)
  have F_denied_b5 : Fld Z h5 b5 "com/example/vetd/vetd/Policy$Lines" "denied" "Ljava/util/BitSet;" .null := D5 (Or.inr (hw _ (tk 34 rfl))) (ty := (.object "java/util/BitSet")) (by decide)
  obtain ⟨_, _, ⟨T63, L63, k63, n63⟩, -, X63, ⟨Lc63, hQ63, l63, y63, z63⟩, st63⟩ := X5.specialBack hx (y := Y8) rfl hown (mvT hZ (hw _ (tk 3 rfl))) (mvT hZ (hw _ (tk 4 rfl))) (mvT hZ (hw _ (tk 5 rfl))) (by decide) (backOf (W := 1) (rm1x1 l Z a0 hw hv [] w_1 w_2 hS0 b5 h5 n0 O5 g_b5 A5 F_denied_b5 F_permitted_b5) hZ (hw _ (tk 5 rfl)) (hw _ (tk 2 rfl)) (by decide) (by decide)) (g := (mkF m 15 (lt2 p0 p1 p2 p3 p4 v5) [(.ref b5), (.ref b5)])) rfl (by rw [hml]; rfl) (Steps.refl _) (a := b5) (argsL := []) (rest := [(.ref b5)]) (lenOf pd_2 rfl) rfl (by show 2 * 0 + _ ≤ _; exact Nat.le_of_eq rfl) (hb hby at_15) (fun _ _ => ⟨rfl, e5, (by decide : 1 + 4 ≤ _), (by decide : 2 + 8 ≤ _)⟩)
  dsimp only [Pt.U, Pt.locs, Pt.cells, Pt.slots] at X63 l63 y63 z63 st63 hQ63
  subst l63 y63 z63
  obtain ⟨b64, b65, k66, b67, b68, k69, rv63, N63q, O63, K63c, Fe63_0, Fe63_1, Fx63_0, Fx63_1, Fx63_2, Fx63_3, Fx63_4, Fx63_5, Fx63_6, Fx63_7, Fx63_8, Fx63_9, Fx63_10, Fx63_11, Fx63_12, Fx63_13, Fx63_14, Fx63_15, Fx63_16, Fx63_17, Fx63_18, Fx63_19, Fx63_20, Fx63_21, Fx63_22, Fx63_23⟩ := hQ63
  subst rv63
  have N63 := Fr.app N0 N63q
  have g_b64 := Fx63_0
  have ne_b5_b64 : b5 ≠ b64 := Nat.ne_of_lt (Nat.lt_of_lt_of_le A5.lt Fx63_1)
  have g_b65 := Fx63_6
  have ne_b5_b65 : b5 ≠ b65 := Nat.ne_of_lt (Nat.lt_of_lt_of_le A5.lt Fx63_7)
  have g_b67 := Fx63_9
  have ne_b5_b67 : b5 ≠ b67 := Nat.ne_of_lt (Nat.lt_of_lt_of_le A5.lt Fx63_10)
  have g_b68 := Fx63_15
  have ne_b5_b68 : b5 ≠ b68 := Nat.ne_of_lt (Nat.lt_of_lt_of_le A5.lt Fx63_16)
  have pre70 : Cm p e below E0 (T63.setTop (mkF m 20 (lt6 p0 p1 p2 p3 p4 v5 b5) [])) := fun t kt => by
    refine pre4 t ?_
    show Sp p e below s₁ (mkF m 11 (lt2 p0 p1 p2 p3 p4 v5) []) _
    refine st5 _ ?_
    show Sp p e below T5 (mkF m 14 (lt2 p0 p1 p2 p3 p4 v5) [(.ref b5)]) _
    refine XS.dup X5.here hx rfl (hb hby at_14) rfl rfl ?_
    show Sp p e below T5 (mkF m 15 (lt2 p0 p1 p2 p3 p4 v5) [(.ref b5), (.ref b5)]) _
    refine st63.trans ?_
    show Sp p e below T63 (mkF m 18 (lt2 p0 p1 p2 p3 p4 v5) [(.ref b5)]) _
    refine XS.astore X63.here hx rfl (hb hby at_18) rfl rfl (l' := (lt6 p0 p1 p2 p3 p4 v5 b5)) rfl ?_
    show Sp p e below T63 (mkF m 20 (lt6 p0 p1 p2 p3 p4 v5 b5) []) _
    exact kt
  have c71 := (A5.keep K63c)
  obtain ⟨T72, h72, L72, w_72, kk72, n_72, u_72, F_72, sl72, X72, e72, O72, N72, c72_0, c72_1, c72_2, c72_3, c72_4, c72_5, c72_6, c72_7, c72_8, c72_9, c72_10, c72_11, c72_12, ne_b5_w_72, ne_b64_w_72, ne_b67_w_72, ne_b68_w_72, g_w_72, hr_72, hs_72, hI_72, pre72⟩ : ∃ (T72 : State) (h72 : Heap) (L72 : List Loc) (w_72 : Addr) (kk72 : ClassId) (n_72 : Int32) (u_72 : Int32) (F_72 : Nat → Int64) (sl72 : Nat), Stand p l e room_1 s m #[(.int p0), (.int p1), (.int p2), (.int p3), (.int p4)] below meth c T72 L72 5 (10 + sl72) ∧ T72.heap = h72 ∧ Old Z n0 h72 ∧ Fr n0 L72 ∧ Exa Z h72 b5 "com/example/vetd/vetd/Policy$Lines" ∧ Fld Z h72 b5 "com/example/vetd/vetd/Policy$Lines" "permitted" "Ljava/util/BitSet;" (.ref b64) ∧ Fld Z h72 b5 "com/example/vetd/vetd/Policy$Lines" "denied" "Ljava/util/BitSet;" (.ref b67) ∧ Exa Z h72 b64 "java/util/BitSet" ∧ Fld Z h72 b64 "java/util/BitSet" "wordsInUse" "I" (.int u_72) ∧ Fld Z h72 b64 "java/util/BitSet" "sizeIsSticky" "Z" (.int (0 : Int32)) ∧ Fld Z h72 b64 "java/util/BitSet" "words" "[J" (.ref w_72) ∧ Arj Z h72 w_72 kk72 n_72 F_72 ∧ Exa Z h72 b67 "java/util/BitSet" ∧ Fld Z h72 b67 "java/util/BitSet" "wordsInUse" "I" (.int (0 : Int32)) ∧ Fld Z h72 b67 "java/util/BitSet" "sizeIsSticky" "Z" (.int (0 : Int32)) ∧ Fld Z h72 b67 "java/util/BitSet" "words" "[J" (.ref b68) ∧ Arj Z h72 b68 k69 ((((64 : Int32) - (1 : Int32)) >>> ((6 : Int32) &&& 31)) + (1 : Int32)) (fun _ => (0 : Int64)) ∧ b5 ≠ w_72 ∧ b64 ≠ w_72 ∧ b67 ≠ w_72 ∧ b68 ≠ w_72 ∧ n0 ≤ w_72 ∧ (1 ≤ (n_72).toInt ∧ (n_72).toInt ≤ 488 ∧ 0 ≤ (u_72).toInt ∧ (u_72).toInt ≤ (n_72).toInt ∧ sl72 ≤ 732) ∧ StB (v5).toInt n_72 sl72 ∧ InvC v5 p0 0 u_72 F_72 ∧ Cm p e below E0 (T72.setTop (mkF m 20 (lt6 p0 p1 p2 p3 p4 v5 b5) [])) := by
    exact ⟨_, _, _, b65, k66, ((((64 : Int32) - (1 : Int32)) >>> ((6 : Int32) &&& 31)) + (1 : Int32)), (0 : Int32), (fun _ => (0 : Int64)), 0, X63.more (by decide) (by show 10 ≤ (10 + 0); omega), rfl, O63, N63, c71, Fe63_1, Fe63_0, Fx63_2, Fx63_3, Fx63_4, Fx63_5, Fx63_8, Fx63_11, Fx63_12, Fx63_13, Fx63_14, Fx63_17, ne_b5_b65, Fx63_18, (Ne.symm Fx63_21), (Ne.symm Fx63_22), g_b65, ⟨by decide, by decide, by decide, by decide, by decide⟩, Or.inl ⟨by decide, rfl⟩, own_inv0 _ _ _, pre70⟩
  have h2_72 : ((2 : Int32) * n_72).toInt = 2 * (n_72).toInt := own_dbl _ (by omega) (by omega)
  obtain ⟨T73, h73, L73, w_73, kk73, n_73, u_73, F_73, sl73, X73, e73, O73, N73, c73_0, c73_1, c73_2, c73_3, c73_4, c73_5, c73_6, c73_7, c73_8, c73_9, c73_10, c73_11, c73_12, ne_b5_w_73, ne_b64_w_73, ne_b67_w_73, ne_b68_w_73, g_w_73, hr_73, hs_73, hI_73, pre73⟩ : ∃ (T73 : State) (h73 : Heap) (L73 : List Loc) (w_73 : Addr) (kk73 : ClassId) (n_73 : Int32) (u_73 : Int32) (F_73 : Nat → Int64) (sl73 : Nat), Stand p l e room_1 s m #[(.int p0), (.int p1), (.int p2), (.int p3), (.int p4)] below meth c T73 L73 6 (10 + sl73) ∧ T73.heap = h73 ∧ Old Z n0 h73 ∧ Fr n0 L73 ∧ Exa Z h73 b5 "com/example/vetd/vetd/Policy$Lines" ∧ Fld Z h73 b5 "com/example/vetd/vetd/Policy$Lines" "permitted" "Ljava/util/BitSet;" (.ref b64) ∧ Fld Z h73 b5 "com/example/vetd/vetd/Policy$Lines" "denied" "Ljava/util/BitSet;" (.ref b67) ∧ Exa Z h73 b64 "java/util/BitSet" ∧ Fld Z h73 b64 "java/util/BitSet" "wordsInUse" "I" (.int u_73) ∧ Fld Z h73 b64 "java/util/BitSet" "sizeIsSticky" "Z" (.int (0 : Int32)) ∧ Fld Z h73 b64 "java/util/BitSet" "words" "[J" (.ref w_73) ∧ Arj Z h73 w_73 kk73 n_73 F_73 ∧ Exa Z h73 b67 "java/util/BitSet" ∧ Fld Z h73 b67 "java/util/BitSet" "wordsInUse" "I" (.int (0 : Int32)) ∧ Fld Z h73 b67 "java/util/BitSet" "sizeIsSticky" "Z" (.int (0 : Int32)) ∧ Fld Z h73 b67 "java/util/BitSet" "words" "[J" (.ref b68) ∧ Arj Z h73 b68 k69 ((((64 : Int32) - (1 : Int32)) >>> ((6 : Int32) &&& 31)) + (1 : Int32)) (fun _ => (0 : Int64)) ∧ b5 ≠ w_73 ∧ b64 ≠ w_73 ∧ b67 ≠ w_73 ∧ b68 ≠ w_73 ∧ n0 ≤ w_73 ∧ (1 ≤ (n_73).toInt ∧ (n_73).toInt ≤ 488 ∧ 0 ≤ (u_73).toInt ∧ (u_73).toInt ≤ (n_73).toInt ∧ sl73 ≤ 732) ∧ StB (v5).toInt n_73 sl73 ∧ InvC v5 p0 1 u_73 F_73 ∧ Cm p e below E0 (T73.setTop (mkF m 36 (lt6 p0 p1 p2 p3 p4 v5 b5) [])) := by
    have qst : ((n_72).toInt = 1 ∧ sl72 = 0) ∨ ((n_72).toInt = (v5).toInt / 64 + 1 ∧ 2 ≤ (n_72).toInt ∧ sl72 ≤ 244) ∨ (((v5).toInt + 3) / 64 + 1 ≤ (n_72).toInt ∧ sl72 ≤ 732) := hs_72
    have pre74 : Cm p e below E0 (T72.setTop (mkF m 23 (lt6 p0 p1 p2 p3 p4 v5 b5) [(.int (p0 &&& (1 : Int32)))])) := fun t kt => by
      refine pre72 t ?_
      show Sp p e below T72 (mkF m 20 (lt6 p0 p1 p2 p3 p4 v5 b5) []) _
      refine XS.iloadN X72.here hx rfl (hb hby at_20) rfl ?_
      refine XS.iconst X72.here hx rfl (hb hby at_21) ?_
      show Sp p e below T72 (mkF m 22 (lt6 p0 p1 p2 p3 p4 v5 b5) [(.int (1 : Int32)), (.int p0)]) _
      refine XS.iand X72.here hx rfl (hb hby at_22) rfl ?_
      show Sp p e below T72 (mkF m 23 (lt6 p0 p1 p2 p3 p4 v5 b5) [(.int (p0 &&& (1 : Int32)))]) _
      exact kt
    by_cases hc75 : (p0 &&& (1 : Int32)) = (0 : Int32)
    · have pre76 : Cm p e below E0 (T72.setTop (mkF m 36 (lt6 p0 p1 p2 p3 p4 v5 b5) [])) := fun t kt => by
        refine pre74 t ?_
        show Sp p e below T72 (mkF m 23 (lt6 p0 p1 p2 p3 p4 v5 b5) [(.int (p0 &&& (1 : Int32)))]) _
        refine XS.ifYes X72.here hx rfl (pc0 := 23) (pc' := 36) rfl (hb hby at_23) rfl ((if0 _ _).trans (teq hc75).1) (by decide) (by decide) ?_
        show Sp p e below T72 (mkF m 36 (lt6 p0 p1 p2 p3 p4 v5 b5) []) _
        exact kt
      exact ⟨_, _, _, w_72, kk72, n_72, u_72, F_72, sl72, X72.more (by decide) (by show (10 + sl72) ≤ (10 + sl72); omega), e72, O72, N72, c72_0, c72_1, c72_2, c72_3, c72_4, c72_5, c72_6, c72_7, c72_8, c72_9, c72_10, c72_11, c72_12, ne_b5_w_72, ne_b64_w_72, ne_b67_w_72, ne_b68_w_72, g_w_72, (by omega), (by show _ ∨ _ ∨ _; omega), (own_skip hI_72 (m := (1 : Int32)) rfl (by decide) hc75), pre76⟩
    · obtain ⟨T77, X77, e77, st77⟩ := getF X72 hx hZ hown (host := "") (Or.inl (hw _ (tk 72 rfl))) Via.refl e72 c72_1 (g := (mkF m 28 (lt6 p0 p1 p2 p3 p4 v5 b5) [(.ref b5)])) rfl rfl (hb hby at_28)
      have pre80 : Cm p e below E0 (T77.setTop (mkF m 33 (lt6 p0 p1 p2 p3 p4 v5 b5) [(.int v5), (.ref b64)])) := fun t kt => by
        refine pre74 t ?_
        show Sp p e below T72 (mkF m 23 (lt6 p0 p1 p2 p3 p4 v5 b5) [(.int (p0 &&& (1 : Int32)))]) _
        refine XS.ifNo X72.here hx rfl (hb hby at_23) rfl ((if0 _ _).trans (feq hc75).1) ?_
        show Sp p e below T72 (mkF m 26 (lt6 p0 p1 p2 p3 p4 v5 b5) []) _
        refine XS.aload X72.here hx rfl (hb hby at_26) rfl rfl ?_
        show Sp p e below T72 (mkF m 28 (lt6 p0 p1 p2 p3 p4 v5 b5) [(.ref b5)]) _
        refine st77 _ ?_
        show Sp p e below T77 (mkF m 31 (lt6 p0 p1 p2 p3 p4 v5 b5) [(.ref b64)]) _
        refine XS.iload X77.here hx rfl (hb hby at_31) rfl ?_
        show Sp p e below T77 (mkF m 33 (lt6 p0 p1 p2 p3 p4 v5 b5) [(.int v5), (.ref b64)]) _
        exact kt
      by_cases hc81 : u_72 < ((v5 >>> ((6 : Int32) &&& 31)) + (1 : Int32))
      · have qhc81 : u_72.toInt < ((v5 >>> ((6 : Int32) &&& 31)) + (1 : Int32)).toInt := own_ilt hc81
        by_cases hc89 : n_72 < ((v5 >>> ((6 : Int32) &&& 31)) + (1 : Int32))
        · have qhc89 : n_72.toInt < ((v5 >>> ((6 : Int32) &&& 31)) + (1 : Int32)).toInt := own_ilt hc89
          by_cases hc111 : n_72 = (1 : Int32)
          · have qhc111 : n_72.toInt = (1 : Int32).toInt := congrArg Int32.toInt hc111
            by_cases hc131 : ((2 : Int32) * n_72) < ((v5 >>> ((6 : Int32) &&& 31)) + (1 : Int32))
            · have qhc131 : ((2 : Int32) * n_72).toInt < ((v5 >>> ((6 : Int32) &&& 31)) + (1 : Int32)).toInt := own_ilt hc131
              have hsl : sl72 = 0 := by omega
              obtain ⟨cq652, kq652, q652a, q652b, q652c⟩ := isOf hZ e77 c72_3
              obtain ⟨_, _, ⟨T652, L652, k652, n652⟩, -, X652, ⟨Lc652, hQ652, l652, y652, z652⟩, st652⟩ := X77.virtualBack hx (y := Y20) (z := Y20) hown (mvT hZ (hw _ (tk 36 rfl))) (mvT hZ (hw _ (tk 37 rfl))) (notFace_of_selects (args := #[]) (mvT hZ (hw _ (tk 39 rfl)))) (mvT hZ (hw _ (tk 39 rfl))) (mvT hZ (hw _ (tk 38 rfl))) (by decide) (backOf (W := 0) (rm6x1 l Z a0 hw hv [] w_1 w_2 hS0 b64 v5 w_72 u_72 kk72 n_72 F_72 244 h72 n0 O72 g_b64 g_w_72 c72_3 c72_5 c72_6 c72_4 c72_7 ne_b64_w_72 (own_nl' (by omega)) hc81 hc89 hc131 (own_ne' (by omega)) (own_nl' (by omega)) (own_nl' (by omega)) (own_lt' (by omega)) (own_nl' (by omega)) (own_nat (by omega) (by omega)) (by decide)) hZ (hw _ (tk 40 rfl)) (hw _ (tk 11 rfl)) (by decide) (by decide)) q652a q652c (g := (mkF m 33 (lt6 p0 p1 p2 p3 p4 v5 b5) [(.int v5), (.ref b64)])) rfl (by rw [hml]; rfl) (Steps.refl _) (argsL := [(.int v5)]) (rest := []) (lenOf pd_1 rfl) rfl (by show 2 * 0 + _ ≤ _; exact Nat.le_of_eq rfl) (hb hby at_33) (fun _ _ => ⟨rfl, e77, (by decide : 5 + 1 ≤ _), (by show (10 + sl72) + (0 + (0 + (0 + (0 + 244)))) ≤ 1600; omega)⟩)
              dsimp only [Pt.U, Pt.locs, Pt.cells, Pt.slots] at X652 l652 y652 z652 st652 hQ652
              subst l652 y652 z652
              obtain ⟨b653, k654, rv652, N652q, O652, K652c, Fe652_0, Fe652_1, Fe652_2, Fx652_0, Fx652_1, Fx652_2⟩ := hQ652
              subst rv652
              have N652 := Fr.app N72 N652q
              have g_b653 := Fx652_0
              have ne_b5_b653 : b5 ≠ b653 := Nat.ne_of_lt (Nat.lt_of_lt_of_le c72_0.lt Fx652_1)
              have ne_b64_b653 : b64 ≠ b653 := Nat.ne_of_lt (Nat.lt_of_lt_of_le c72_3.lt Fx652_1)
              have ne_w_72_b653 : w_72 ≠ b653 := Nat.ne_of_lt (Nat.lt_of_lt_of_le c72_7.lt Fx652_1)
              have ne_b67_b653 : b67 ≠ b653 := Nat.ne_of_lt (Nat.lt_of_lt_of_le c72_8.lt Fx652_1)
              have ne_b68_b653 : b68 ≠ b653 := Nat.ne_of_lt (Nat.lt_of_lt_of_le c72_12.lt Fx652_1)
              have pre655 : Cm p e below E0 (T652.setTop (mkF m 36 (lt6 p0 p1 p2 p3 p4 v5 b5) [])) := fun t kt => by
                refine pre80 t ?_
                show Sp p e below T77 (mkF m 33 (lt6 p0 p1 p2 p3 p4 v5 b5) [(.int v5), (.ref b64)]) _
                refine st652.trans ?_
                show Sp p e below T652 (mkF m 36 (lt6 p0 p1 p2 p3 p4 v5 b5) []) _
                exact kt
              have c656 := (c72_0.keep K652c)
              have c657 := (c72_1.keep K652c (ninS ne_b5_b64 nin0))
              have c658 := (c72_2.keep K652c (ninS ne_b5_b64 nin0))
              have c659 := (c72_3.keep K652c)
              have c660 := (c72_8.keep K652c)
              have c661 := (c72_9.keep K652c (ninS (Ne.symm Fx63_19) nin0))
              have c662 := (c72_10.keep K652c (ninS (Ne.symm Fx63_19) nin0))
              have c663 := (c72_11.keep K652c (ninS (Ne.symm Fx63_19) nin0))
              have c664 := (c72_12.keep K652c (ninS (Ne.symm Fx63_20) nin0))
              exact ⟨_, _, _, b653, k654, ((v5 >>> ((6 : Int32) &&& 31)) + (1 : Int32)), ((v5 >>> ((6 : Int32) &&& 31)) + (1 : Int32)), (upF (ovF F_72 (n_72).toNatClampNeg (fun _ => (0 : Int64))) ((v5 >>> ((6 : Int32) &&& 31))).toNatClampNeg (((ovF F_72 (n_72).toNatClampNeg (fun _ => (0 : Int64))) ((v5 >>> ((6 : Int32) &&& 31))).toNatClampNeg) ||| ((1 : Int64) <<< (v5 &&& 0x3f).toInt64))), (sl72 + (0 + (0 + (0 + (0 + 244))))), X652.more (by decide) (by show (10 + (sl72 + (0 + (0 + (0 + (0 + 244)))))) ≤ (10 + (sl72 + (0 + (0 + (0 + (0 + 244)))))); omega), rfl, O652, N652, c656, c657, c658, c659, Fe652_2, Fe652_0, Fe652_1, Fx652_2, c660, c661, c662, c663, c664, ne_b5_b653, ne_b64_b653, ne_b67_b653, ne_b68_b653, g_b653, (by omega), (by show _ ∨ _ ∨ _; omega), (own_setG hI_72 (m := (1 : Int32)) rfl (by decide) hc75 hB (by simp) hj_0 (by omega) (by omega) (by omega)), pre655⟩
            · have qhc131 : ¬ ((2 : Int32) * n_72).toInt < ((v5 >>> ((6 : Int32) &&& 31)) + (1 : Int32)).toInt := own_inl hc131
              have hsl : sl72 = 0 := by omega
              obtain ⟨cq1174, kq1174, q1174a, q1174b, q1174c⟩ := isOf hZ e77 c72_3
              obtain ⟨_, _, ⟨T1174, L1174, k1174, n1174⟩, -, X1174, ⟨Lc1174, hQ1174, l1174, y1174, z1174⟩, st1174⟩ := X77.virtualBack hx (y := Y20) (z := Y20) hown (mvT hZ (hw _ (tk 36 rfl))) (mvT hZ (hw _ (tk 37 rfl))) (notFace_of_selects (args := #[]) (mvT hZ (hw _ (tk 39 rfl)))) (mvT hZ (hw _ (tk 39 rfl))) (mvT hZ (hw _ (tk 38 rfl))) (by decide) (backOf (W := 0) (rm6x2 l Z a0 hw hv [] w_1 w_2 hS0 b64 v5 w_72 u_72 kk72 n_72 F_72 244 h72 n0 O72 g_b64 g_w_72 c72_3 c72_5 c72_6 c72_4 c72_7 ne_b64_w_72 (own_nl' (by omega)) hc81 hc89 hc131 (own_ne' (by omega)) (own_nl' (by omega)) (own_nl' (by omega)) (own_lt' (by omega)) (own_nl' (by omega)) (own_nat (by omega) (by omega)) (by decide)) hZ (hw _ (tk 40 rfl)) (hw _ (tk 11 rfl)) (by decide) (by decide)) q1174a q1174c (g := (mkF m 33 (lt6 p0 p1 p2 p3 p4 v5 b5) [(.int v5), (.ref b64)])) rfl (by rw [hml]; rfl) (Steps.refl _) (argsL := [(.int v5)]) (rest := []) (lenOf pd_1 rfl) rfl (by show 2 * 0 + _ ≤ _; exact Nat.le_of_eq rfl) (hb hby at_33) (fun _ _ => ⟨rfl, e77, (by decide : 5 + 1 ≤ _), (by show (10 + sl72) + (0 + (0 + (0 + (0 + 244)))) ≤ 1600; omega)⟩)
              dsimp only [Pt.U, Pt.locs, Pt.cells, Pt.slots] at X1174 l1174 y1174 z1174 st1174 hQ1174
              subst l1174 y1174 z1174
              obtain ⟨b1175, k1176, rv1174, N1174q, O1174, K1174c, Fe1174_0, Fe1174_1, Fe1174_2, Fx1174_0, Fx1174_1, Fx1174_2⟩ := hQ1174
              subst rv1174
              have N1174 := Fr.app N72 N1174q
              have g_b1175 := Fx1174_0
              have ne_b5_b1175 : b5 ≠ b1175 := Nat.ne_of_lt (Nat.lt_of_lt_of_le c72_0.lt Fx1174_1)
              have ne_b64_b1175 : b64 ≠ b1175 := Nat.ne_of_lt (Nat.lt_of_lt_of_le c72_3.lt Fx1174_1)
              have ne_w_72_b1175 : w_72 ≠ b1175 := Nat.ne_of_lt (Nat.lt_of_lt_of_le c72_7.lt Fx1174_1)
              have ne_b67_b1175 : b67 ≠ b1175 := Nat.ne_of_lt (Nat.lt_of_lt_of_le c72_8.lt Fx1174_1)
              have ne_b68_b1175 : b68 ≠ b1175 := Nat.ne_of_lt (Nat.lt_of_lt_of_le c72_12.lt Fx1174_1)
              have pre1177 : Cm p e below E0 (T1174.setTop (mkF m 36 (lt6 p0 p1 p2 p3 p4 v5 b5) [])) := fun t kt => by
                refine pre80 t ?_
                show Sp p e below T77 (mkF m 33 (lt6 p0 p1 p2 p3 p4 v5 b5) [(.int v5), (.ref b64)]) _
                refine st1174.trans ?_
                show Sp p e below T1174 (mkF m 36 (lt6 p0 p1 p2 p3 p4 v5 b5) []) _
                exact kt
              have c1178 := (c72_0.keep K1174c)
              have c1179 := (c72_1.keep K1174c (ninS ne_b5_b64 nin0))
              have c1180 := (c72_2.keep K1174c (ninS ne_b5_b64 nin0))
              have c1181 := (c72_3.keep K1174c)
              have c1182 := (c72_8.keep K1174c)
              have c1183 := (c72_9.keep K1174c (ninS (Ne.symm Fx63_19) nin0))
              have c1184 := (c72_10.keep K1174c (ninS (Ne.symm Fx63_19) nin0))
              have c1185 := (c72_11.keep K1174c (ninS (Ne.symm Fx63_19) nin0))
              have c1186 := (c72_12.keep K1174c (ninS (Ne.symm Fx63_20) nin0))
              exact ⟨_, _, _, b1175, k1176, ((2 : Int32) * n_72), ((v5 >>> ((6 : Int32) &&& 31)) + (1 : Int32)), (upF (ovF F_72 (n_72).toNatClampNeg (fun _ => (0 : Int64))) ((v5 >>> ((6 : Int32) &&& 31))).toNatClampNeg (((ovF F_72 (n_72).toNatClampNeg (fun _ => (0 : Int64))) ((v5 >>> ((6 : Int32) &&& 31))).toNatClampNeg) ||| ((1 : Int64) <<< (v5 &&& 0x3f).toInt64))), (sl72 + (0 + (0 + (0 + (0 + 244))))), X1174.more (by decide) (by show (10 + (sl72 + (0 + (0 + (0 + (0 + 244)))))) ≤ (10 + (sl72 + (0 + (0 + (0 + (0 + 244)))))); omega), rfl, O1174, N1174, c1178, c1179, c1180, c1181, Fe1174_2, Fe1174_0, Fe1174_1, Fx1174_2, c1182, c1183, c1184, c1185, c1186, ne_b5_b1175, ne_b64_b1175, ne_b67_b1175, ne_b68_b1175, g_b1175, (by omega), (by show _ ∨ _ ∨ _; omega), (own_setG hI_72 (m := (1 : Int32)) rfl (by decide) hc75 hB (by simp) hj_0 (by omega) (by omega) (by omega)), pre1177⟩
          · have qhc111 : ¬ n_72.toInt = (1 : Int32).toInt := own_ine hc111
            have hsl : sl72 ≤ 244 := by omega
            obtain ⟨cq1536, kq1536, q1536a, q1536b, q1536c⟩ := isOf hZ e77 c72_3
            obtain ⟨_, _, ⟨T1536, L1536, k1536, n1536⟩, -, X1536, ⟨Lc1536, hQ1536, l1536, y1536, z1536⟩, st1536⟩ := X77.virtualBack hx (y := Y20) (z := Y20) hown (mvT hZ (hw _ (tk 36 rfl))) (mvT hZ (hw _ (tk 37 rfl))) (notFace_of_selects (args := #[]) (mvT hZ (hw _ (tk 39 rfl)))) (mvT hZ (hw _ (tk 39 rfl))) (mvT hZ (hw _ (tk 38 rfl))) (by decide) (backOf (W := 0) (rm6x2 l Z a0 hw hv [] w_1 w_2 hS0 b64 v5 w_72 u_72 kk72 n_72 F_72 488 h72 n0 O72 g_b64 g_w_72 c72_3 c72_5 c72_6 c72_4 c72_7 ne_b64_w_72 (own_nl' (by omega)) hc81 hc89 (own_nl' (by omega)) (own_ne' (by omega)) (own_nl' (by omega)) (own_nl' (by omega)) (own_lt' (by omega)) (own_nl' (by omega)) (own_nat (by omega) (by omega)) (by decide)) hZ (hw _ (tk 40 rfl)) (hw _ (tk 11 rfl)) (by decide) (by decide)) q1536a q1536c (g := (mkF m 33 (lt6 p0 p1 p2 p3 p4 v5 b5) [(.int v5), (.ref b64)])) rfl (by rw [hml]; rfl) (Steps.refl _) (argsL := [(.int v5)]) (rest := []) (lenOf pd_1 rfl) rfl (by show 2 * 0 + _ ≤ _; exact Nat.le_of_eq rfl) (hb hby at_33) (fun _ _ => ⟨rfl, e77, (by decide : 5 + 1 ≤ _), (by show (10 + sl72) + (0 + (0 + (0 + (0 + 488)))) ≤ 1600; omega)⟩)
            dsimp only [Pt.U, Pt.locs, Pt.cells, Pt.slots] at X1536 l1536 y1536 z1536 st1536 hQ1536
            subst l1536 y1536 z1536
            obtain ⟨b1537, k1538, rv1536, N1536q, O1536, K1536c, Fe1536_0, Fe1536_1, Fe1536_2, Fx1536_0, Fx1536_1, Fx1536_2⟩ := hQ1536
            subst rv1536
            have N1536 := Fr.app N72 N1536q
            have g_b1537 := Fx1536_0
            have ne_b5_b1537 : b5 ≠ b1537 := Nat.ne_of_lt (Nat.lt_of_lt_of_le c72_0.lt Fx1536_1)
            have ne_b64_b1537 : b64 ≠ b1537 := Nat.ne_of_lt (Nat.lt_of_lt_of_le c72_3.lt Fx1536_1)
            have ne_w_72_b1537 : w_72 ≠ b1537 := Nat.ne_of_lt (Nat.lt_of_lt_of_le c72_7.lt Fx1536_1)
            have ne_b67_b1537 : b67 ≠ b1537 := Nat.ne_of_lt (Nat.lt_of_lt_of_le c72_8.lt Fx1536_1)
            have ne_b68_b1537 : b68 ≠ b1537 := Nat.ne_of_lt (Nat.lt_of_lt_of_le c72_12.lt Fx1536_1)
            have pre1539 : Cm p e below E0 (T1536.setTop (mkF m 36 (lt6 p0 p1 p2 p3 p4 v5 b5) [])) := fun t kt => by
              refine pre80 t ?_
              show Sp p e below T77 (mkF m 33 (lt6 p0 p1 p2 p3 p4 v5 b5) [(.int v5), (.ref b64)]) _
              refine st1536.trans ?_
              show Sp p e below T1536 (mkF m 36 (lt6 p0 p1 p2 p3 p4 v5 b5) []) _
              exact kt
            have c1540 := (c72_0.keep K1536c)
            have c1541 := (c72_1.keep K1536c (ninS ne_b5_b64 nin0))
            have c1542 := (c72_2.keep K1536c (ninS ne_b5_b64 nin0))
            have c1543 := (c72_3.keep K1536c)
            have c1544 := (c72_8.keep K1536c)
            have c1545 := (c72_9.keep K1536c (ninS (Ne.symm Fx63_19) nin0))
            have c1546 := (c72_10.keep K1536c (ninS (Ne.symm Fx63_19) nin0))
            have c1547 := (c72_11.keep K1536c (ninS (Ne.symm Fx63_19) nin0))
            have c1548 := (c72_12.keep K1536c (ninS (Ne.symm Fx63_20) nin0))
            exact ⟨_, _, _, b1537, k1538, ((2 : Int32) * n_72), ((v5 >>> ((6 : Int32) &&& 31)) + (1 : Int32)), (upF (ovF F_72 (n_72).toNatClampNeg (fun _ => (0 : Int64))) ((v5 >>> ((6 : Int32) &&& 31))).toNatClampNeg (((ovF F_72 (n_72).toNatClampNeg (fun _ => (0 : Int64))) ((v5 >>> ((6 : Int32) &&& 31))).toNatClampNeg) ||| ((1 : Int64) <<< (v5 &&& 0x3f).toInt64))), (sl72 + (0 + (0 + (0 + (0 + 488))))), X1536.more (by decide) (by show (10 + (sl72 + (0 + (0 + (0 + (0 + 488)))))) ≤ (10 + (sl72 + (0 + (0 + (0 + (0 + 488)))))); omega), rfl, O1536, N1536, c1540, c1541, c1542, c1543, Fe1536_2, Fe1536_0, Fe1536_1, Fx1536_2, c1544, c1545, c1546, c1547, c1548, ne_b5_b1537, ne_b64_b1537, ne_b67_b1537, ne_b68_b1537, g_b1537, (by omega), (by show _ ∨ _ ∨ _; omega), (own_setG hI_72 (m := (1 : Int32)) rfl (by decide) hc75 hB (by simp) hj_0 (by omega) (by omega) (by omega)), pre1539⟩
        · have qhc89 : ¬ n_72.toInt < ((v5 >>> ((6 : Int32) &&& 31)) + (1 : Int32)).toInt := own_inl hc89
          obtain ⟨cq1601, kq1601, q1601a, q1601b, q1601c⟩ := isOf hZ e77 c72_3
          obtain ⟨_, _, ⟨T1601, L1601, k1601, n1601⟩, -, X1601, ⟨Lc1601, hQ1601, l1601, y1601, z1601⟩, st1601⟩ := X77.virtualBack hx (y := Y20) (z := Y20) hown (mvT hZ (hw _ (tk 36 rfl))) (mvT hZ (hw _ (tk 37 rfl))) (notFace_of_selects (args := #[]) (mvT hZ (hw _ (tk 39 rfl)))) (mvT hZ (hw _ (tk 39 rfl))) (mvT hZ (hw _ (tk 38 rfl))) (by decide) (backOf (W := 0) (rm6x3 l Z a0 hw hv [] w_1 w_2 hS0 b64 v5 w_72 u_72 kk72 n_72 F_72 h72 n0 O72 g_b64 g_w_72 c72_3 c72_5 c72_6 c72_4 c72_7 ne_b64_w_72 (own_nl' (by omega)) hc81 hc89 (own_lt' (by omega)) (own_nl' (by omega))) hZ (hw _ (tk 40 rfl)) (hw _ (tk 11 rfl)) (by decide) (by decide)) q1601a q1601c (g := (mkF m 33 (lt6 p0 p1 p2 p3 p4 v5 b5) [(.int v5), (.ref b64)])) rfl (by rw [hml]; rfl) (Steps.refl _) (argsL := [(.int v5)]) (rest := []) (lenOf pd_1 rfl) rfl (by show 2 * 0 + _ ≤ _; exact Nat.le_of_eq rfl) (hb hby at_33) (fun _ _ => ⟨rfl, e77, (by decide : 5 + 0 ≤ _), (by show (10 + sl72) + 0 ≤ 1600; omega)⟩)
          dsimp only [Pt.U, Pt.locs, Pt.cells, Pt.slots] at X1601 l1601 y1601 z1601 st1601 hQ1601
          subst l1601 y1601 z1601
          obtain ⟨rv1601, N1601q, O1601, K1601c, Fe1601_0, Fe1601_1, Fe1601_2, Fe1601_3⟩ := hQ1601
          subst rv1601
          have N1601 := Fr.app N72 N1601q
          have pre1602 : Cm p e below E0 (T1601.setTop (mkF m 36 (lt6 p0 p1 p2 p3 p4 v5 b5) [])) := fun t kt => by
            refine pre80 t ?_
            show Sp p e below T77 (mkF m 33 (lt6 p0 p1 p2 p3 p4 v5 b5) [(.int v5), (.ref b64)]) _
            refine st1601.trans ?_
            show Sp p e below T1601 (mkF m 36 (lt6 p0 p1 p2 p3 p4 v5 b5) []) _
            exact kt
          have c1603 := (c72_0.keep K1601c)
          have c1604 := (c72_1.keep K1601c (ninS ne_b5_b64 (ninS ne_b5_w_72 nin0)))
          have c1605 := (c72_2.keep K1601c (ninS ne_b5_b64 (ninS ne_b5_w_72 nin0)))
          have c1606 := (c72_3.keep K1601c)
          have c1607 := (c72_8.keep K1601c)
          have c1608 := (c72_9.keep K1601c (ninS (Ne.symm Fx63_19) (ninS ne_b67_w_72 nin0)))
          have c1609 := (c72_10.keep K1601c (ninS (Ne.symm Fx63_19) (ninS ne_b67_w_72 nin0)))
          have c1610 := (c72_11.keep K1601c (ninS (Ne.symm Fx63_19) (ninS ne_b67_w_72 nin0)))
          have c1611 := (c72_12.keep K1601c (ninS (Ne.symm Fx63_20) (ninS ne_b68_w_72 nin0)))
          exact ⟨_, _, _, w_72, kk72, n_72, ((v5 >>> ((6 : Int32) &&& 31)) + (1 : Int32)), (upF F_72 ((v5 >>> ((6 : Int32) &&& 31))).toNatClampNeg ((F_72 ((v5 >>> ((6 : Int32) &&& 31))).toNatClampNeg) ||| ((1 : Int64) <<< (v5 &&& 0x3f).toInt64))), sl72, X1601.more (by decide) (by show (10 + sl72) ≤ (10 + sl72); omega), rfl, O1601, N1601, c1603, c1604, c1605, c1606, Fe1601_2, Fe1601_0, Fe1601_1, Fe1601_3, c1607, c1608, c1609, c1610, c1611, ne_b5_w_72, ne_b64_w_72, ne_b67_w_72, ne_b68_w_72, g_w_72, (by omega), (by show _ ∨ _ ∨ _; omega), (own_set hI_72 (m := (1 : Int32)) rfl (by decide) hc75 hB (by simp) hj_0 (by omega) (by omega)), pre1602⟩
      · have qhc81 : ¬ u_72.toInt < ((v5 >>> ((6 : Int32) &&& 31)) + (1 : Int32)).toInt := own_inl hc81
        obtain ⟨cq1642, kq1642, q1642a, q1642b, q1642c⟩ := isOf hZ e77 c72_3
        obtain ⟨_, _, ⟨T1642, L1642, k1642, n1642⟩, -, X1642, ⟨Lc1642, hQ1642, l1642, y1642, z1642⟩, st1642⟩ := X77.virtualBack hx (y := Y20) (z := Y20) hown (mvT hZ (hw _ (tk 36 rfl))) (mvT hZ (hw _ (tk 37 rfl))) (notFace_of_selects (args := #[]) (mvT hZ (hw _ (tk 39 rfl)))) (mvT hZ (hw _ (tk 39 rfl))) (mvT hZ (hw _ (tk 38 rfl))) (by decide) (backOf (W := 0) (rm6x4 l Z a0 hw hv [] w_1 w_2 hS0 b64 v5 w_72 u_72 kk72 n_72 F_72 h72 n0 O72 g_b64 g_w_72 c72_3 c72_5 c72_6 c72_4 c72_7 ne_b64_w_72 (own_nl' (by omega)) hc81 (own_lt' (by omega)) (own_nl' (by omega))) hZ (hw _ (tk 40 rfl)) (hw _ (tk 11 rfl)) (by decide) (by decide)) q1642a q1642c (g := (mkF m 33 (lt6 p0 p1 p2 p3 p4 v5 b5) [(.int v5), (.ref b64)])) rfl (by rw [hml]; rfl) (Steps.refl _) (argsL := [(.int v5)]) (rest := []) (lenOf pd_1 rfl) rfl (by show 2 * 0 + _ ≤ _; exact Nat.le_of_eq rfl) (hb hby at_33) (fun _ _ => ⟨rfl, e77, (by decide : 5 + 0 ≤ _), (by show (10 + sl72) + 0 ≤ 1600; omega)⟩)
        dsimp only [Pt.U, Pt.locs, Pt.cells, Pt.slots] at X1642 l1642 y1642 z1642 st1642 hQ1642
        subst l1642 y1642 z1642
        obtain ⟨rv1642, N1642q, O1642, K1642c, Fe1642_0⟩ := hQ1642
        subst rv1642
        have N1642 := Fr.app N72 N1642q
        have pre1643 : Cm p e below E0 (T1642.setTop (mkF m 36 (lt6 p0 p1 p2 p3 p4 v5 b5) [])) := fun t kt => by
          refine pre80 t ?_
          show Sp p e below T77 (mkF m 33 (lt6 p0 p1 p2 p3 p4 v5 b5) [(.int v5), (.ref b64)]) _
          refine st1642.trans ?_
          show Sp p e below T1642 (mkF m 36 (lt6 p0 p1 p2 p3 p4 v5 b5) []) _
          exact kt
        have c1644 := (c72_0.keep K1642c)
        have c1645 := (c72_1.keep K1642c (ninS ne_b5_w_72 nin0))
        have c1646 := (c72_2.keep K1642c (ninS ne_b5_w_72 nin0))
        have c1647 := (c72_3.keep K1642c)
        have c1648 := (c72_4.keep K1642c (ninS ne_b64_w_72 nin0))
        have c1649 := (c72_5.keep K1642c (ninS ne_b64_w_72 nin0))
        have c1650 := (c72_6.keep K1642c (ninS ne_b64_w_72 nin0))
        have c1651 := (c72_8.keep K1642c)
        have c1652 := (c72_9.keep K1642c (ninS ne_b67_w_72 nin0))
        have c1653 := (c72_10.keep K1642c (ninS ne_b67_w_72 nin0))
        have c1654 := (c72_11.keep K1642c (ninS ne_b67_w_72 nin0))
        have c1655 := (c72_12.keep K1642c (ninS ne_b68_w_72 nin0))
        exact ⟨_, _, _, w_72, kk72, n_72, u_72, (upF F_72 ((v5 >>> ((6 : Int32) &&& 31))).toNatClampNeg ((F_72 ((v5 >>> ((6 : Int32) &&& 31))).toNatClampNeg) ||| ((1 : Int64) <<< (v5 &&& 0x3f).toInt64))), sl72, X1642.more (by decide) (by show (10 + sl72) ≤ (10 + sl72); omega), rfl, O1642, N1642, c1644, c1645, c1646, c1647, c1648, c1649, c1650, Fe1642_0, c1651, c1652, c1653, c1654, c1655, ne_b5_w_72, ne_b64_w_72, ne_b67_w_72, ne_b68_w_72, g_w_72, (by omega), (by show _ ∨ _ ∨ _; omega), (own_set hI_72 (m := (1 : Int32)) rfl (by decide) hc75 hB (by simp) hj_0 (by omega) (by omega)), pre1643⟩
  have h2_73 : ((2 : Int32) * n_73).toInt = 2 * (n_73).toInt := own_dbl _ (by omega) (by omega)
  obtain ⟨T1656, h1656, L1656, w_1656, kk1656, n_1656, u_1656, F_1656, sl1656, X1656, e1656, O1656, N1656, c1656_0, c1656_1, c1656_2, c1656_3, c1656_4, c1656_5, c1656_6, c1656_7, c1656_8, c1656_9, c1656_10, c1656_11, c1656_12, ne_b5_w_1656, ne_b64_w_1656, ne_b67_w_1656, ne_b68_w_1656, g_w_1656, hr_1656, hs_1656, hI_1656, pre1656⟩ : ∃ (T1656 : State) (h1656 : Heap) (L1656 : List Loc) (w_1656 : Addr) (kk1656 : ClassId) (n_1656 : Int32) (u_1656 : Int32) (F_1656 : Nat → Int64) (sl1656 : Nat), Stand p l e room_1 s m #[(.int p0), (.int p1), (.int p2), (.int p3), (.int p4)] below meth c T1656 L1656 7 (10 + sl1656) ∧ T1656.heap = h1656 ∧ Old Z n0 h1656 ∧ Fr n0 L1656 ∧ Exa Z h1656 b5 "com/example/vetd/vetd/Policy$Lines" ∧ Fld Z h1656 b5 "com/example/vetd/vetd/Policy$Lines" "permitted" "Ljava/util/BitSet;" (.ref b64) ∧ Fld Z h1656 b5 "com/example/vetd/vetd/Policy$Lines" "denied" "Ljava/util/BitSet;" (.ref b67) ∧ Exa Z h1656 b64 "java/util/BitSet" ∧ Fld Z h1656 b64 "java/util/BitSet" "wordsInUse" "I" (.int u_1656) ∧ Fld Z h1656 b64 "java/util/BitSet" "sizeIsSticky" "Z" (.int (0 : Int32)) ∧ Fld Z h1656 b64 "java/util/BitSet" "words" "[J" (.ref w_1656) ∧ Arj Z h1656 w_1656 kk1656 n_1656 F_1656 ∧ Exa Z h1656 b67 "java/util/BitSet" ∧ Fld Z h1656 b67 "java/util/BitSet" "wordsInUse" "I" (.int (0 : Int32)) ∧ Fld Z h1656 b67 "java/util/BitSet" "sizeIsSticky" "Z" (.int (0 : Int32)) ∧ Fld Z h1656 b67 "java/util/BitSet" "words" "[J" (.ref b68) ∧ Arj Z h1656 b68 k69 ((((64 : Int32) - (1 : Int32)) >>> ((6 : Int32) &&& 31)) + (1 : Int32)) (fun _ => (0 : Int64)) ∧ b5 ≠ w_1656 ∧ b64 ≠ w_1656 ∧ b67 ≠ w_1656 ∧ b68 ≠ w_1656 ∧ n0 ≤ w_1656 ∧ (1 ≤ (n_1656).toInt ∧ (n_1656).toInt ≤ 488 ∧ 0 ≤ (u_1656).toInt ∧ (u_1656).toInt ≤ (n_1656).toInt ∧ sl1656 ≤ 732) ∧ StB (v5).toInt n_1656 sl1656 ∧ InvC v5 p0 2 u_1656 F_1656 ∧ Cm p e below E0 (T1656.setTop (mkF m 54 (lt6 p0 p1 p2 p3 p4 v5 b5) [])) := by
    have qst : ((n_73).toInt = 1 ∧ sl73 = 0) ∨ ((n_73).toInt = (v5).toInt / 64 + 1 ∧ 2 ≤ (n_73).toInt ∧ sl73 ≤ 244) ∨ (((v5).toInt + 3) / 64 + 1 ≤ (n_73).toInt ∧ sl73 ≤ 732) := hs_73
    have pre1657 : Cm p e below E0 (T73.setTop (mkF m 39 (lt6 p0 p1 p2 p3 p4 v5 b5) [(.int (p0 &&& (2 : Int32)))])) := fun t kt => by
      refine pre73 t ?_
      show Sp p e below T73 (mkF m 36 (lt6 p0 p1 p2 p3 p4 v5 b5) []) _
      refine XS.iloadN X73.here hx rfl (hb hby at_36) rfl ?_
      refine XS.iconst X73.here hx rfl (hb hby at_37) ?_
      show Sp p e below T73 (mkF m 38 (lt6 p0 p1 p2 p3 p4 v5 b5) [(.int (2 : Int32)), (.int p0)]) _
      refine XS.iand X73.here hx rfl (hb hby at_38) rfl ?_
      show Sp p e below T73 (mkF m 39 (lt6 p0 p1 p2 p3 p4 v5 b5) [(.int (p0 &&& (2 : Int32)))]) _
      exact kt
    by_cases hc1658 : (p0 &&& (2 : Int32)) = (0 : Int32)
    · have pre1659 : Cm p e below E0 (T73.setTop (mkF m 54 (lt6 p0 p1 p2 p3 p4 v5 b5) [])) := fun t kt => by
        refine pre1657 t ?_
        show Sp p e below T73 (mkF m 39 (lt6 p0 p1 p2 p3 p4 v5 b5) [(.int (p0 &&& (2 : Int32)))]) _
        refine XS.ifYes X73.here hx rfl (pc0 := 39) (pc' := 54) rfl (hb hby at_39) rfl ((if0 _ _).trans (teq hc1658).1) (by decide) (by decide) ?_
        show Sp p e below T73 (mkF m 54 (lt6 p0 p1 p2 p3 p4 v5 b5) []) _
        exact kt
      exact ⟨_, _, _, w_73, kk73, n_73, u_73, F_73, sl73, X73.more (by decide) (by show (10 + sl73) ≤ (10 + sl73); omega), e73, O73, N73, c73_0, c73_1, c73_2, c73_3, c73_4, c73_5, c73_6, c73_7, c73_8, c73_9, c73_10, c73_11, c73_12, ne_b5_w_73, ne_b64_w_73, ne_b67_w_73, ne_b68_w_73, g_w_73, (by omega), (by show _ ∨ _ ∨ _; omega), (own_skip hI_73 (m := (2 : Int32)) rfl (by decide) hc1658), pre1659⟩
    · obtain ⟨T1660, X1660, e1660, st1660⟩ := getF X73 hx hZ hown (host := "") (Or.inl (hw _ (tk 72 rfl))) Via.refl e73 c73_1 (g := (mkF m 44 (lt6 p0 p1 p2 p3 p4 v5 b5) [(.ref b5)])) rfl rfl (hb hby at_44)
      have pre1663 : Cm p e below E0 (T1660.setTop (mkF m 51 (lt6 p0 p1 p2 p3 p4 v5 b5) [(.int (v5 + (1 : Int32))), (.ref b64)])) := fun t kt => by
        refine pre1657 t ?_
        show Sp p e below T73 (mkF m 39 (lt6 p0 p1 p2 p3 p4 v5 b5) [(.int (p0 &&& (2 : Int32)))]) _
        refine XS.ifNo X73.here hx rfl (hb hby at_39) rfl ((if0 _ _).trans (feq hc1658).1) ?_
        show Sp p e below T73 (mkF m 42 (lt6 p0 p1 p2 p3 p4 v5 b5) []) _
        refine XS.aload X73.here hx rfl (hb hby at_42) rfl rfl ?_
        show Sp p e below T73 (mkF m 44 (lt6 p0 p1 p2 p3 p4 v5 b5) [(.ref b5)]) _
        refine st1660 _ ?_
        show Sp p e below T1660 (mkF m 47 (lt6 p0 p1 p2 p3 p4 v5 b5) [(.ref b64)]) _
        refine XS.iload X1660.here hx rfl (hb hby at_47) rfl ?_
        refine XS.iconst X1660.here hx rfl (hb hby at_49) ?_
        show Sp p e below T1660 (mkF m 50 (lt6 p0 p1 p2 p3 p4 v5 b5) [(.int (1 : Int32)), (.int v5), (.ref b64)]) _
        refine XS.iadd X1660.here hx rfl (hb hby at_50) rfl ?_
        show Sp p e below T1660 (mkF m 51 (lt6 p0 p1 p2 p3 p4 v5 b5) [(.int (v5 + (1 : Int32))), (.ref b64)]) _
        exact kt
      by_cases hc1664 : u_73 < (((v5 + (1 : Int32)) >>> ((6 : Int32) &&& 31)) + (1 : Int32))
      · have qhc1664 : u_73.toInt < (((v5 + (1 : Int32)) >>> ((6 : Int32) &&& 31)) + (1 : Int32)).toInt := own_ilt hc1664
        by_cases hc1672 : n_73 < (((v5 + (1 : Int32)) >>> ((6 : Int32) &&& 31)) + (1 : Int32))
        · have qhc1672 : n_73.toInt < (((v5 + (1 : Int32)) >>> ((6 : Int32) &&& 31)) + (1 : Int32)).toInt := own_ilt hc1672
          by_cases hc1692 : n_73 = (1 : Int32)
          · have qhc1692 : n_73.toInt = (1 : Int32).toInt := congrArg Int32.toInt hc1692
            by_cases hc1712 : ((2 : Int32) * n_73) < (((v5 + (1 : Int32)) >>> ((6 : Int32) &&& 31)) + (1 : Int32))
            · have qhc1712 : ((2 : Int32) * n_73).toInt < (((v5 + (1 : Int32)) >>> ((6 : Int32) &&& 31)) + (1 : Int32)).toInt := own_ilt hc1712
              have hsl : sl73 = 0 := by omega
              obtain ⟨cq2062, kq2062, q2062a, q2062b, q2062c⟩ := isOf hZ e1660 c73_3
              obtain ⟨_, _, ⟨T2062, L2062, k2062, n2062⟩, -, X2062, ⟨Lc2062, hQ2062, l2062, y2062, z2062⟩, st2062⟩ := X1660.virtualBack hx (y := Y20) (z := Y20) hown (mvT hZ (hw _ (tk 36 rfl))) (mvT hZ (hw _ (tk 37 rfl))) (notFace_of_selects (args := #[]) (mvT hZ (hw _ (tk 39 rfl)))) (mvT hZ (hw _ (tk 39 rfl))) (mvT hZ (hw _ (tk 38 rfl))) (by decide) (backOf (W := 0) (rm6x1 l Z a0 hw hv [] w_1 w_2 hS0 b64 (v5 + (1 : Int32)) w_73 u_73 kk73 n_73 F_73 244 h73 n0 O73 g_b64 g_w_73 c73_3 c73_5 c73_6 c73_4 c73_7 ne_b64_w_73 (own_nl' (by omega)) hc1664 hc1672 hc1712 (own_ne' (by omega)) (own_nl' (by omega)) (own_nl' (by omega)) (own_lt' (by omega)) (own_nl' (by omega)) (own_nat (by omega) (by omega)) (by decide)) hZ (hw _ (tk 40 rfl)) (hw _ (tk 11 rfl)) (by decide) (by decide)) q2062a q2062c (g := (mkF m 51 (lt6 p0 p1 p2 p3 p4 v5 b5) [(.int (v5 + (1 : Int32))), (.ref b64)])) rfl (by rw [hml]; rfl) (Steps.refl _) (argsL := [(.int (v5 + (1 : Int32)))]) (rest := []) (lenOf pd_1 rfl) rfl (by show 2 * 0 + _ ≤ _; exact Nat.le_of_eq rfl) (hb hby at_51) (fun _ _ => ⟨rfl, e1660, (by decide : 6 + 1 ≤ _), (by show (10 + sl73) + (0 + (0 + (0 + (0 + 244)))) ≤ 1600; omega)⟩)
              dsimp only [Pt.U, Pt.locs, Pt.cells, Pt.slots] at X2062 l2062 y2062 z2062 st2062 hQ2062
              subst l2062 y2062 z2062
              obtain ⟨b2063, k2064, rv2062, N2062q, O2062, K2062c, Fe2062_0, Fe2062_1, Fe2062_2, Fx2062_0, Fx2062_1, Fx2062_2⟩ := hQ2062
              subst rv2062
              have N2062 := Fr.app N73 N2062q
              have g_b2063 := Fx2062_0
              have ne_b5_b2063 : b5 ≠ b2063 := Nat.ne_of_lt (Nat.lt_of_lt_of_le c73_0.lt Fx2062_1)
              have ne_b64_b2063 : b64 ≠ b2063 := Nat.ne_of_lt (Nat.lt_of_lt_of_le c73_3.lt Fx2062_1)
              have ne_w_73_b2063 : w_73 ≠ b2063 := Nat.ne_of_lt (Nat.lt_of_lt_of_le c73_7.lt Fx2062_1)
              have ne_b67_b2063 : b67 ≠ b2063 := Nat.ne_of_lt (Nat.lt_of_lt_of_le c73_8.lt Fx2062_1)
              have ne_b68_b2063 : b68 ≠ b2063 := Nat.ne_of_lt (Nat.lt_of_lt_of_le c73_12.lt Fx2062_1)
              have pre2065 : Cm p e below E0 (T2062.setTop (mkF m 54 (lt6 p0 p1 p2 p3 p4 v5 b5) [])) := fun t kt => by
                refine pre1663 t ?_
                show Sp p e below T1660 (mkF m 51 (lt6 p0 p1 p2 p3 p4 v5 b5) [(.int (v5 + (1 : Int32))), (.ref b64)]) _
                refine st2062.trans ?_
                show Sp p e below T2062 (mkF m 54 (lt6 p0 p1 p2 p3 p4 v5 b5) []) _
                exact kt
              have c2066 := (c73_0.keep K2062c)
              have c2067 := (c73_1.keep K2062c (ninS ne_b5_b64 nin0))
              have c2068 := (c73_2.keep K2062c (ninS ne_b5_b64 nin0))
              have c2069 := (c73_3.keep K2062c)
              have c2070 := (c73_8.keep K2062c)
              have c2071 := (c73_9.keep K2062c (ninS (Ne.symm Fx63_19) nin0))
              have c2072 := (c73_10.keep K2062c (ninS (Ne.symm Fx63_19) nin0))
              have c2073 := (c73_11.keep K2062c (ninS (Ne.symm Fx63_19) nin0))
              have c2074 := (c73_12.keep K2062c (ninS (Ne.symm Fx63_20) nin0))
              exact ⟨_, _, _, b2063, k2064, (((v5 + (1 : Int32)) >>> ((6 : Int32) &&& 31)) + (1 : Int32)), (((v5 + (1 : Int32)) >>> ((6 : Int32) &&& 31)) + (1 : Int32)), (upF (ovF F_73 (n_73).toNatClampNeg (fun _ => (0 : Int64))) (((v5 + (1 : Int32)) >>> ((6 : Int32) &&& 31))).toNatClampNeg (((ovF F_73 (n_73).toNatClampNeg (fun _ => (0 : Int64))) (((v5 + (1 : Int32)) >>> ((6 : Int32) &&& 31))).toNatClampNeg) ||| ((1 : Int64) <<< ((v5 + (1 : Int32)) &&& 0x3f).toInt64))), (sl73 + (0 + (0 + (0 + (0 + 244))))), X2062.more (by decide) (by show (10 + (sl73 + (0 + (0 + (0 + (0 + 244)))))) ≤ (10 + (sl73 + (0 + (0 + (0 + (0 + 244)))))); omega), rfl, O2062, N2062, c2066, c2067, c2068, c2069, Fe2062_2, Fe2062_0, Fe2062_1, Fx2062_2, c2070, c2071, c2072, c2073, c2074, ne_b5_b2063, ne_b64_b2063, ne_b67_b2063, ne_b68_b2063, g_b2063, (by omega), (by show _ ∨ _ ∨ _; omega), (own_setG hI_73 (m := (2 : Int32)) rfl (by decide) hc1658 hB hi_1 hj_1 (by omega) (by omega) (by omega)), pre2065⟩
            · have qhc1712 : ¬ ((2 : Int32) * n_73).toInt < (((v5 + (1 : Int32)) >>> ((6 : Int32) &&& 31)) + (1 : Int32)).toInt := own_inl hc1712
              have hsl : sl73 = 0 := by omega
              obtain ⟨cq2424, kq2424, q2424a, q2424b, q2424c⟩ := isOf hZ e1660 c73_3
              obtain ⟨_, _, ⟨T2424, L2424, k2424, n2424⟩, -, X2424, ⟨Lc2424, hQ2424, l2424, y2424, z2424⟩, st2424⟩ := X1660.virtualBack hx (y := Y20) (z := Y20) hown (mvT hZ (hw _ (tk 36 rfl))) (mvT hZ (hw _ (tk 37 rfl))) (notFace_of_selects (args := #[]) (mvT hZ (hw _ (tk 39 rfl)))) (mvT hZ (hw _ (tk 39 rfl))) (mvT hZ (hw _ (tk 38 rfl))) (by decide) (backOf (W := 0) (rm6x2 l Z a0 hw hv [] w_1 w_2 hS0 b64 (v5 + (1 : Int32)) w_73 u_73 kk73 n_73 F_73 244 h73 n0 O73 g_b64 g_w_73 c73_3 c73_5 c73_6 c73_4 c73_7 ne_b64_w_73 (own_nl' (by omega)) hc1664 hc1672 hc1712 (own_ne' (by omega)) (own_nl' (by omega)) (own_nl' (by omega)) (own_lt' (by omega)) (own_nl' (by omega)) (own_nat (by omega) (by omega)) (by decide)) hZ (hw _ (tk 40 rfl)) (hw _ (tk 11 rfl)) (by decide) (by decide)) q2424a q2424c (g := (mkF m 51 (lt6 p0 p1 p2 p3 p4 v5 b5) [(.int (v5 + (1 : Int32))), (.ref b64)])) rfl (by rw [hml]; rfl) (Steps.refl _) (argsL := [(.int (v5 + (1 : Int32)))]) (rest := []) (lenOf pd_1 rfl) rfl (by show 2 * 0 + _ ≤ _; exact Nat.le_of_eq rfl) (hb hby at_51) (fun _ _ => ⟨rfl, e1660, (by decide : 6 + 1 ≤ _), (by show (10 + sl73) + (0 + (0 + (0 + (0 + 244)))) ≤ 1600; omega)⟩)
              dsimp only [Pt.U, Pt.locs, Pt.cells, Pt.slots] at X2424 l2424 y2424 z2424 st2424 hQ2424
              subst l2424 y2424 z2424
              obtain ⟨b2425, k2426, rv2424, N2424q, O2424, K2424c, Fe2424_0, Fe2424_1, Fe2424_2, Fx2424_0, Fx2424_1, Fx2424_2⟩ := hQ2424
              subst rv2424
              have N2424 := Fr.app N73 N2424q
              have g_b2425 := Fx2424_0
              have ne_b5_b2425 : b5 ≠ b2425 := Nat.ne_of_lt (Nat.lt_of_lt_of_le c73_0.lt Fx2424_1)
              have ne_b64_b2425 : b64 ≠ b2425 := Nat.ne_of_lt (Nat.lt_of_lt_of_le c73_3.lt Fx2424_1)
              have ne_w_73_b2425 : w_73 ≠ b2425 := Nat.ne_of_lt (Nat.lt_of_lt_of_le c73_7.lt Fx2424_1)
              have ne_b67_b2425 : b67 ≠ b2425 := Nat.ne_of_lt (Nat.lt_of_lt_of_le c73_8.lt Fx2424_1)
              have ne_b68_b2425 : b68 ≠ b2425 := Nat.ne_of_lt (Nat.lt_of_lt_of_le c73_12.lt Fx2424_1)
              have pre2427 : Cm p e below E0 (T2424.setTop (mkF m 54 (lt6 p0 p1 p2 p3 p4 v5 b5) [])) := fun t kt => by
                refine pre1663 t ?_
                show Sp p e below T1660 (mkF m 51 (lt6 p0 p1 p2 p3 p4 v5 b5) [(.int (v5 + (1 : Int32))), (.ref b64)]) _
                refine st2424.trans ?_
                show Sp p e below T2424 (mkF m 54 (lt6 p0 p1 p2 p3 p4 v5 b5) []) _
                exact kt
              have c2428 := (c73_0.keep K2424c)
              have c2429 := (c73_1.keep K2424c (ninS ne_b5_b64 nin0))
              have c2430 := (c73_2.keep K2424c (ninS ne_b5_b64 nin0))
              have c2431 := (c73_3.keep K2424c)
              have c2432 := (c73_8.keep K2424c)
              have c2433 := (c73_9.keep K2424c (ninS (Ne.symm Fx63_19) nin0))
              have c2434 := (c73_10.keep K2424c (ninS (Ne.symm Fx63_19) nin0))
              have c2435 := (c73_11.keep K2424c (ninS (Ne.symm Fx63_19) nin0))
              have c2436 := (c73_12.keep K2424c (ninS (Ne.symm Fx63_20) nin0))
              exact ⟨_, _, _, b2425, k2426, ((2 : Int32) * n_73), (((v5 + (1 : Int32)) >>> ((6 : Int32) &&& 31)) + (1 : Int32)), (upF (ovF F_73 (n_73).toNatClampNeg (fun _ => (0 : Int64))) (((v5 + (1 : Int32)) >>> ((6 : Int32) &&& 31))).toNatClampNeg (((ovF F_73 (n_73).toNatClampNeg (fun _ => (0 : Int64))) (((v5 + (1 : Int32)) >>> ((6 : Int32) &&& 31))).toNatClampNeg) ||| ((1 : Int64) <<< ((v5 + (1 : Int32)) &&& 0x3f).toInt64))), (sl73 + (0 + (0 + (0 + (0 + 244))))), X2424.more (by decide) (by show (10 + (sl73 + (0 + (0 + (0 + (0 + 244)))))) ≤ (10 + (sl73 + (0 + (0 + (0 + (0 + 244)))))); omega), rfl, O2424, N2424, c2428, c2429, c2430, c2431, Fe2424_2, Fe2424_0, Fe2424_1, Fx2424_2, c2432, c2433, c2434, c2435, c2436, ne_b5_b2425, ne_b64_b2425, ne_b67_b2425, ne_b68_b2425, g_b2425, (by omega), (by show _ ∨ _ ∨ _; omega), (own_setG hI_73 (m := (2 : Int32)) rfl (by decide) hc1658 hB hi_1 hj_1 (by omega) (by omega) (by omega)), pre2427⟩
          · have qhc1692 : ¬ n_73.toInt = (1 : Int32).toInt := own_ine hc1692
            have hsl : sl73 ≤ 244 := by omega
            obtain ⟨cq2786, kq2786, q2786a, q2786b, q2786c⟩ := isOf hZ e1660 c73_3
            obtain ⟨_, _, ⟨T2786, L2786, k2786, n2786⟩, -, X2786, ⟨Lc2786, hQ2786, l2786, y2786, z2786⟩, st2786⟩ := X1660.virtualBack hx (y := Y20) (z := Y20) hown (mvT hZ (hw _ (tk 36 rfl))) (mvT hZ (hw _ (tk 37 rfl))) (notFace_of_selects (args := #[]) (mvT hZ (hw _ (tk 39 rfl)))) (mvT hZ (hw _ (tk 39 rfl))) (mvT hZ (hw _ (tk 38 rfl))) (by decide) (backOf (W := 0) (rm6x2 l Z a0 hw hv [] w_1 w_2 hS0 b64 (v5 + (1 : Int32)) w_73 u_73 kk73 n_73 F_73 488 h73 n0 O73 g_b64 g_w_73 c73_3 c73_5 c73_6 c73_4 c73_7 ne_b64_w_73 (own_nl' (by omega)) hc1664 hc1672 (own_nl' (by omega)) (own_ne' (by omega)) (own_nl' (by omega)) (own_nl' (by omega)) (own_lt' (by omega)) (own_nl' (by omega)) (own_nat (by omega) (by omega)) (by decide)) hZ (hw _ (tk 40 rfl)) (hw _ (tk 11 rfl)) (by decide) (by decide)) q2786a q2786c (g := (mkF m 51 (lt6 p0 p1 p2 p3 p4 v5 b5) [(.int (v5 + (1 : Int32))), (.ref b64)])) rfl (by rw [hml]; rfl) (Steps.refl _) (argsL := [(.int (v5 + (1 : Int32)))]) (rest := []) (lenOf pd_1 rfl) rfl (by show 2 * 0 + _ ≤ _; exact Nat.le_of_eq rfl) (hb hby at_51) (fun _ _ => ⟨rfl, e1660, (by decide : 6 + 1 ≤ _), (by show (10 + sl73) + (0 + (0 + (0 + (0 + 488)))) ≤ 1600; omega)⟩)
            dsimp only [Pt.U, Pt.locs, Pt.cells, Pt.slots] at X2786 l2786 y2786 z2786 st2786 hQ2786
            subst l2786 y2786 z2786
            obtain ⟨b2787, k2788, rv2786, N2786q, O2786, K2786c, Fe2786_0, Fe2786_1, Fe2786_2, Fx2786_0, Fx2786_1, Fx2786_2⟩ := hQ2786
            subst rv2786
            have N2786 := Fr.app N73 N2786q
            have g_b2787 := Fx2786_0
            have ne_b5_b2787 : b5 ≠ b2787 := Nat.ne_of_lt (Nat.lt_of_lt_of_le c73_0.lt Fx2786_1)
            have ne_b64_b2787 : b64 ≠ b2787 := Nat.ne_of_lt (Nat.lt_of_lt_of_le c73_3.lt Fx2786_1)
            have ne_w_73_b2787 : w_73 ≠ b2787 := Nat.ne_of_lt (Nat.lt_of_lt_of_le c73_7.lt Fx2786_1)
            have ne_b67_b2787 : b67 ≠ b2787 := Nat.ne_of_lt (Nat.lt_of_lt_of_le c73_8.lt Fx2786_1)
            have ne_b68_b2787 : b68 ≠ b2787 := Nat.ne_of_lt (Nat.lt_of_lt_of_le c73_12.lt Fx2786_1)
            have pre2789 : Cm p e below E0 (T2786.setTop (mkF m 54 (lt6 p0 p1 p2 p3 p4 v5 b5) [])) := fun t kt => by
              refine pre1663 t ?_
              show Sp p e below T1660 (mkF m 51 (lt6 p0 p1 p2 p3 p4 v5 b5) [(.int (v5 + (1 : Int32))), (.ref b64)]) _
              refine st2786.trans ?_
              show Sp p e below T2786 (mkF m 54 (lt6 p0 p1 p2 p3 p4 v5 b5) []) _
              exact kt
            have c2790 := (c73_0.keep K2786c)
            have c2791 := (c73_1.keep K2786c (ninS ne_b5_b64 nin0))
            have c2792 := (c73_2.keep K2786c (ninS ne_b5_b64 nin0))
            have c2793 := (c73_3.keep K2786c)
            have c2794 := (c73_8.keep K2786c)
            have c2795 := (c73_9.keep K2786c (ninS (Ne.symm Fx63_19) nin0))
            have c2796 := (c73_10.keep K2786c (ninS (Ne.symm Fx63_19) nin0))
            have c2797 := (c73_11.keep K2786c (ninS (Ne.symm Fx63_19) nin0))
            have c2798 := (c73_12.keep K2786c (ninS (Ne.symm Fx63_20) nin0))
            exact ⟨_, _, _, b2787, k2788, ((2 : Int32) * n_73), (((v5 + (1 : Int32)) >>> ((6 : Int32) &&& 31)) + (1 : Int32)), (upF (ovF F_73 (n_73).toNatClampNeg (fun _ => (0 : Int64))) (((v5 + (1 : Int32)) >>> ((6 : Int32) &&& 31))).toNatClampNeg (((ovF F_73 (n_73).toNatClampNeg (fun _ => (0 : Int64))) (((v5 + (1 : Int32)) >>> ((6 : Int32) &&& 31))).toNatClampNeg) ||| ((1 : Int64) <<< ((v5 + (1 : Int32)) &&& 0x3f).toInt64))), (sl73 + (0 + (0 + (0 + (0 + 488))))), X2786.more (by decide) (by show (10 + (sl73 + (0 + (0 + (0 + (0 + 488)))))) ≤ (10 + (sl73 + (0 + (0 + (0 + (0 + 488)))))); omega), rfl, O2786, N2786, c2790, c2791, c2792, c2793, Fe2786_2, Fe2786_0, Fe2786_1, Fx2786_2, c2794, c2795, c2796, c2797, c2798, ne_b5_b2787, ne_b64_b2787, ne_b67_b2787, ne_b68_b2787, g_b2787, (by omega), (by show _ ∨ _ ∨ _; omega), (own_setG hI_73 (m := (2 : Int32)) rfl (by decide) hc1658 hB hi_1 hj_1 (by omega) (by omega) (by omega)), pre2789⟩
        · have qhc1672 : ¬ n_73.toInt < (((v5 + (1 : Int32)) >>> ((6 : Int32) &&& 31)) + (1 : Int32)).toInt := own_inl hc1672
          obtain ⟨cq2824, kq2824, q2824a, q2824b, q2824c⟩ := isOf hZ e1660 c73_3
          obtain ⟨_, _, ⟨T2824, L2824, k2824, n2824⟩, -, X2824, ⟨Lc2824, hQ2824, l2824, y2824, z2824⟩, st2824⟩ := X1660.virtualBack hx (y := Y20) (z := Y20) hown (mvT hZ (hw _ (tk 36 rfl))) (mvT hZ (hw _ (tk 37 rfl))) (notFace_of_selects (args := #[]) (mvT hZ (hw _ (tk 39 rfl)))) (mvT hZ (hw _ (tk 39 rfl))) (mvT hZ (hw _ (tk 38 rfl))) (by decide) (backOf (W := 0) (rm6x3 l Z a0 hw hv [] w_1 w_2 hS0 b64 (v5 + (1 : Int32)) w_73 u_73 kk73 n_73 F_73 h73 n0 O73 g_b64 g_w_73 c73_3 c73_5 c73_6 c73_4 c73_7 ne_b64_w_73 (own_nl' (by omega)) hc1664 hc1672 (own_lt' (by omega)) (own_nl' (by omega))) hZ (hw _ (tk 40 rfl)) (hw _ (tk 11 rfl)) (by decide) (by decide)) q2824a q2824c (g := (mkF m 51 (lt6 p0 p1 p2 p3 p4 v5 b5) [(.int (v5 + (1 : Int32))), (.ref b64)])) rfl (by rw [hml]; rfl) (Steps.refl _) (argsL := [(.int (v5 + (1 : Int32)))]) (rest := []) (lenOf pd_1 rfl) rfl (by show 2 * 0 + _ ≤ _; exact Nat.le_of_eq rfl) (hb hby at_51) (fun _ _ => ⟨rfl, e1660, (by decide : 6 + 0 ≤ _), (by show (10 + sl73) + 0 ≤ 1600; omega)⟩)
          dsimp only [Pt.U, Pt.locs, Pt.cells, Pt.slots] at X2824 l2824 y2824 z2824 st2824 hQ2824
          subst l2824 y2824 z2824
          obtain ⟨rv2824, N2824q, O2824, K2824c, Fe2824_0, Fe2824_1, Fe2824_2, Fe2824_3⟩ := hQ2824
          subst rv2824
          have N2824 := Fr.app N73 N2824q
          have pre2825 : Cm p e below E0 (T2824.setTop (mkF m 54 (lt6 p0 p1 p2 p3 p4 v5 b5) [])) := fun t kt => by
            refine pre1663 t ?_
            show Sp p e below T1660 (mkF m 51 (lt6 p0 p1 p2 p3 p4 v5 b5) [(.int (v5 + (1 : Int32))), (.ref b64)]) _
            refine st2824.trans ?_
            show Sp p e below T2824 (mkF m 54 (lt6 p0 p1 p2 p3 p4 v5 b5) []) _
            exact kt
          have c2826 := (c73_0.keep K2824c)
          have c2827 := (c73_1.keep K2824c (ninS ne_b5_b64 (ninS ne_b5_w_73 nin0)))
          have c2828 := (c73_2.keep K2824c (ninS ne_b5_b64 (ninS ne_b5_w_73 nin0)))
          have c2829 := (c73_3.keep K2824c)
          have c2830 := (c73_8.keep K2824c)
          have c2831 := (c73_9.keep K2824c (ninS (Ne.symm Fx63_19) (ninS ne_b67_w_73 nin0)))
          have c2832 := (c73_10.keep K2824c (ninS (Ne.symm Fx63_19) (ninS ne_b67_w_73 nin0)))
          have c2833 := (c73_11.keep K2824c (ninS (Ne.symm Fx63_19) (ninS ne_b67_w_73 nin0)))
          have c2834 := (c73_12.keep K2824c (ninS (Ne.symm Fx63_20) (ninS ne_b68_w_73 nin0)))
          exact ⟨_, _, _, w_73, kk73, n_73, (((v5 + (1 : Int32)) >>> ((6 : Int32) &&& 31)) + (1 : Int32)), (upF F_73 (((v5 + (1 : Int32)) >>> ((6 : Int32) &&& 31))).toNatClampNeg ((F_73 (((v5 + (1 : Int32)) >>> ((6 : Int32) &&& 31))).toNatClampNeg) ||| ((1 : Int64) <<< ((v5 + (1 : Int32)) &&& 0x3f).toInt64))), sl73, X2824.more (by decide) (by show (10 + sl73) ≤ (10 + sl73); omega), rfl, O2824, N2824, c2826, c2827, c2828, c2829, Fe2824_2, Fe2824_0, Fe2824_1, Fe2824_3, c2830, c2831, c2832, c2833, c2834, ne_b5_w_73, ne_b64_w_73, ne_b67_w_73, ne_b68_w_73, g_w_73, (by omega), (by show _ ∨ _ ∨ _; omega), (own_set hI_73 (m := (2 : Int32)) rfl (by decide) hc1658 hB hi_1 hj_1 (by omega) (by omega)), pre2825⟩
      · have qhc1664 : ¬ u_73.toInt < (((v5 + (1 : Int32)) >>> ((6 : Int32) &&& 31)) + (1 : Int32)).toInt := own_inl hc1664
        obtain ⟨cq2851, kq2851, q2851a, q2851b, q2851c⟩ := isOf hZ e1660 c73_3
        obtain ⟨_, _, ⟨T2851, L2851, k2851, n2851⟩, -, X2851, ⟨Lc2851, hQ2851, l2851, y2851, z2851⟩, st2851⟩ := X1660.virtualBack hx (y := Y20) (z := Y20) hown (mvT hZ (hw _ (tk 36 rfl))) (mvT hZ (hw _ (tk 37 rfl))) (notFace_of_selects (args := #[]) (mvT hZ (hw _ (tk 39 rfl)))) (mvT hZ (hw _ (tk 39 rfl))) (mvT hZ (hw _ (tk 38 rfl))) (by decide) (backOf (W := 0) (rm6x4 l Z a0 hw hv [] w_1 w_2 hS0 b64 (v5 + (1 : Int32)) w_73 u_73 kk73 n_73 F_73 h73 n0 O73 g_b64 g_w_73 c73_3 c73_5 c73_6 c73_4 c73_7 ne_b64_w_73 (own_nl' (by omega)) hc1664 (own_lt' (by omega)) (own_nl' (by omega))) hZ (hw _ (tk 40 rfl)) (hw _ (tk 11 rfl)) (by decide) (by decide)) q2851a q2851c (g := (mkF m 51 (lt6 p0 p1 p2 p3 p4 v5 b5) [(.int (v5 + (1 : Int32))), (.ref b64)])) rfl (by rw [hml]; rfl) (Steps.refl _) (argsL := [(.int (v5 + (1 : Int32)))]) (rest := []) (lenOf pd_1 rfl) rfl (by show 2 * 0 + _ ≤ _; exact Nat.le_of_eq rfl) (hb hby at_51) (fun _ _ => ⟨rfl, e1660, (by decide : 6 + 0 ≤ _), (by show (10 + sl73) + 0 ≤ 1600; omega)⟩)
        dsimp only [Pt.U, Pt.locs, Pt.cells, Pt.slots] at X2851 l2851 y2851 z2851 st2851 hQ2851
        subst l2851 y2851 z2851
        obtain ⟨rv2851, N2851q, O2851, K2851c, Fe2851_0⟩ := hQ2851
        subst rv2851
        have N2851 := Fr.app N73 N2851q
        have pre2852 : Cm p e below E0 (T2851.setTop (mkF m 54 (lt6 p0 p1 p2 p3 p4 v5 b5) [])) := fun t kt => by
          refine pre1663 t ?_
          show Sp p e below T1660 (mkF m 51 (lt6 p0 p1 p2 p3 p4 v5 b5) [(.int (v5 + (1 : Int32))), (.ref b64)]) _
          refine st2851.trans ?_
          show Sp p e below T2851 (mkF m 54 (lt6 p0 p1 p2 p3 p4 v5 b5) []) _
          exact kt
        have c2853 := (c73_0.keep K2851c)
        have c2854 := (c73_1.keep K2851c (ninS ne_b5_w_73 nin0))
        have c2855 := (c73_2.keep K2851c (ninS ne_b5_w_73 nin0))
        have c2856 := (c73_3.keep K2851c)
        have c2857 := (c73_4.keep K2851c (ninS ne_b64_w_73 nin0))
        have c2858 := (c73_5.keep K2851c (ninS ne_b64_w_73 nin0))
        have c2859 := (c73_6.keep K2851c (ninS ne_b64_w_73 nin0))
        have c2860 := (c73_8.keep K2851c)
        have c2861 := (c73_9.keep K2851c (ninS ne_b67_w_73 nin0))
        have c2862 := (c73_10.keep K2851c (ninS ne_b67_w_73 nin0))
        have c2863 := (c73_11.keep K2851c (ninS ne_b67_w_73 nin0))
        have c2864 := (c73_12.keep K2851c (ninS ne_b68_w_73 nin0))
        exact ⟨_, _, _, w_73, kk73, n_73, u_73, (upF F_73 (((v5 + (1 : Int32)) >>> ((6 : Int32) &&& 31))).toNatClampNeg ((F_73 (((v5 + (1 : Int32)) >>> ((6 : Int32) &&& 31))).toNatClampNeg) ||| ((1 : Int64) <<< ((v5 + (1 : Int32)) &&& 0x3f).toInt64))), sl73, X2851.more (by decide) (by show (10 + sl73) ≤ (10 + sl73); omega), rfl, O2851, N2851, c2853, c2854, c2855, c2856, c2857, c2858, c2859, Fe2851_0, c2860, c2861, c2862, c2863, c2864, ne_b5_w_73, ne_b64_w_73, ne_b67_w_73, ne_b68_w_73, g_w_73, (by omega), (by show _ ∨ _ ∨ _; omega), (own_set hI_73 (m := (2 : Int32)) rfl (by decide) hc1658 hB hi_1 hj_1 (by omega) (by omega)), pre2852⟩
  have h2_1656 : ((2 : Int32) * n_1656).toInt = 2 * (n_1656).toInt := own_dbl _ (by omega) (by omega)
  obtain ⟨T2865, h2865, L2865, w_2865, kk2865, n_2865, u_2865, F_2865, sl2865, X2865, e2865, O2865, N2865, c2865_0, c2865_1, c2865_2, c2865_3, c2865_4, c2865_5, c2865_6, c2865_7, c2865_8, c2865_9, c2865_10, c2865_11, c2865_12, ne_b5_w_2865, ne_b64_w_2865, ne_b67_w_2865, ne_b68_w_2865, g_w_2865, hr_2865, hs_2865, hI_2865, pre2865⟩ : ∃ (T2865 : State) (h2865 : Heap) (L2865 : List Loc) (w_2865 : Addr) (kk2865 : ClassId) (n_2865 : Int32) (u_2865 : Int32) (F_2865 : Nat → Int64) (sl2865 : Nat), Stand p l e room_1 s m #[(.int p0), (.int p1), (.int p2), (.int p3), (.int p4)] below meth c T2865 L2865 8 (10 + sl2865) ∧ T2865.heap = h2865 ∧ Old Z n0 h2865 ∧ Fr n0 L2865 ∧ Exa Z h2865 b5 "com/example/vetd/vetd/Policy$Lines" ∧ Fld Z h2865 b5 "com/example/vetd/vetd/Policy$Lines" "permitted" "Ljava/util/BitSet;" (.ref b64) ∧ Fld Z h2865 b5 "com/example/vetd/vetd/Policy$Lines" "denied" "Ljava/util/BitSet;" (.ref b67) ∧ Exa Z h2865 b64 "java/util/BitSet" ∧ Fld Z h2865 b64 "java/util/BitSet" "wordsInUse" "I" (.int u_2865) ∧ Fld Z h2865 b64 "java/util/BitSet" "sizeIsSticky" "Z" (.int (0 : Int32)) ∧ Fld Z h2865 b64 "java/util/BitSet" "words" "[J" (.ref w_2865) ∧ Arj Z h2865 w_2865 kk2865 n_2865 F_2865 ∧ Exa Z h2865 b67 "java/util/BitSet" ∧ Fld Z h2865 b67 "java/util/BitSet" "wordsInUse" "I" (.int (0 : Int32)) ∧ Fld Z h2865 b67 "java/util/BitSet" "sizeIsSticky" "Z" (.int (0 : Int32)) ∧ Fld Z h2865 b67 "java/util/BitSet" "words" "[J" (.ref b68) ∧ Arj Z h2865 b68 k69 ((((64 : Int32) - (1 : Int32)) >>> ((6 : Int32) &&& 31)) + (1 : Int32)) (fun _ => (0 : Int64)) ∧ b5 ≠ w_2865 ∧ b64 ≠ w_2865 ∧ b67 ≠ w_2865 ∧ b68 ≠ w_2865 ∧ n0 ≤ w_2865 ∧ (1 ≤ (n_2865).toInt ∧ (n_2865).toInt ≤ 488 ∧ 0 ≤ (u_2865).toInt ∧ (u_2865).toInt ≤ (n_2865).toInt ∧ sl2865 ≤ 732) ∧ StB (v5).toInt n_2865 sl2865 ∧ InvC v5 p0 3 u_2865 F_2865 ∧ Cm p e below E0 (T2865.setTop (mkF m 72 (lt6 p0 p1 p2 p3 p4 v5 b5) [])) := by
    have qst : ((n_1656).toInt = 1 ∧ sl1656 = 0) ∨ ((n_1656).toInt = (v5).toInt / 64 + 1 ∧ 2 ≤ (n_1656).toInt ∧ sl1656 ≤ 244) ∨ (((v5).toInt + 3) / 64 + 1 ≤ (n_1656).toInt ∧ sl1656 ≤ 732) := hs_1656
    have pre2866 : Cm p e below E0 (T1656.setTop (mkF m 57 (lt6 p0 p1 p2 p3 p4 v5 b5) [(.int (p0 &&& (4 : Int32)))])) := fun t kt => by
      refine pre1656 t ?_
      show Sp p e below T1656 (mkF m 54 (lt6 p0 p1 p2 p3 p4 v5 b5) []) _
      refine XS.iloadN X1656.here hx rfl (hb hby at_54) rfl ?_
      refine XS.iconst X1656.here hx rfl (hb hby at_55) ?_
      show Sp p e below T1656 (mkF m 56 (lt6 p0 p1 p2 p3 p4 v5 b5) [(.int (4 : Int32)), (.int p0)]) _
      refine XS.iand X1656.here hx rfl (hb hby at_56) rfl ?_
      show Sp p e below T1656 (mkF m 57 (lt6 p0 p1 p2 p3 p4 v5 b5) [(.int (p0 &&& (4 : Int32)))]) _
      exact kt
    by_cases hc2867 : (p0 &&& (4 : Int32)) = (0 : Int32)
    · have pre2868 : Cm p e below E0 (T1656.setTop (mkF m 72 (lt6 p0 p1 p2 p3 p4 v5 b5) [])) := fun t kt => by
        refine pre2866 t ?_
        show Sp p e below T1656 (mkF m 57 (lt6 p0 p1 p2 p3 p4 v5 b5) [(.int (p0 &&& (4 : Int32)))]) _
        refine XS.ifYes X1656.here hx rfl (pc0 := 57) (pc' := 72) rfl (hb hby at_57) rfl ((if0 _ _).trans (teq hc2867).1) (by decide) (by decide) ?_
        show Sp p e below T1656 (mkF m 72 (lt6 p0 p1 p2 p3 p4 v5 b5) []) _
        exact kt
      exact ⟨_, _, _, w_1656, kk1656, n_1656, u_1656, F_1656, sl1656, X1656.more (by decide) (by show (10 + sl1656) ≤ (10 + sl1656); omega), e1656, O1656, N1656, c1656_0, c1656_1, c1656_2, c1656_3, c1656_4, c1656_5, c1656_6, c1656_7, c1656_8, c1656_9, c1656_10, c1656_11, c1656_12, ne_b5_w_1656, ne_b64_w_1656, ne_b67_w_1656, ne_b68_w_1656, g_w_1656, (by omega), (by show _ ∨ _ ∨ _; omega), (own_skip hI_1656 (m := (4 : Int32)) rfl (by decide) hc2867), pre2868⟩
    · obtain ⟨T2869, X2869, e2869, st2869⟩ := getF X1656 hx hZ hown (host := "") (Or.inl (hw _ (tk 72 rfl))) Via.refl e1656 c1656_1 (g := (mkF m 62 (lt6 p0 p1 p2 p3 p4 v5 b5) [(.ref b5)])) rfl rfl (hb hby at_62)
      have pre2872 : Cm p e below E0 (T2869.setTop (mkF m 69 (lt6 p0 p1 p2 p3 p4 v5 b5) [(.int (v5 + (2 : Int32))), (.ref b64)])) := fun t kt => by
        refine pre2866 t ?_
        show Sp p e below T1656 (mkF m 57 (lt6 p0 p1 p2 p3 p4 v5 b5) [(.int (p0 &&& (4 : Int32)))]) _
        refine XS.ifNo X1656.here hx rfl (hb hby at_57) rfl ((if0 _ _).trans (feq hc2867).1) ?_
        show Sp p e below T1656 (mkF m 60 (lt6 p0 p1 p2 p3 p4 v5 b5) []) _
        refine XS.aload X1656.here hx rfl (hb hby at_60) rfl rfl ?_
        show Sp p e below T1656 (mkF m 62 (lt6 p0 p1 p2 p3 p4 v5 b5) [(.ref b5)]) _
        refine st2869 _ ?_
        show Sp p e below T2869 (mkF m 65 (lt6 p0 p1 p2 p3 p4 v5 b5) [(.ref b64)]) _
        refine XS.iload X2869.here hx rfl (hb hby at_65) rfl ?_
        refine XS.iconst X2869.here hx rfl (hb hby at_67) ?_
        show Sp p e below T2869 (mkF m 68 (lt6 p0 p1 p2 p3 p4 v5 b5) [(.int (2 : Int32)), (.int v5), (.ref b64)]) _
        refine XS.iadd X2869.here hx rfl (hb hby at_68) rfl ?_
        show Sp p e below T2869 (mkF m 69 (lt6 p0 p1 p2 p3 p4 v5 b5) [(.int (v5 + (2 : Int32))), (.ref b64)]) _
        exact kt
      by_cases hc2873 : u_1656 < (((v5 + (2 : Int32)) >>> ((6 : Int32) &&& 31)) + (1 : Int32))
      · have qhc2873 : u_1656.toInt < (((v5 + (2 : Int32)) >>> ((6 : Int32) &&& 31)) + (1 : Int32)).toInt := own_ilt hc2873
        by_cases hc2881 : n_1656 < (((v5 + (2 : Int32)) >>> ((6 : Int32) &&& 31)) + (1 : Int32))
        · have qhc2881 : n_1656.toInt < (((v5 + (2 : Int32)) >>> ((6 : Int32) &&& 31)) + (1 : Int32)).toInt := own_ilt hc2881
          by_cases hc2901 : n_1656 = (1 : Int32)
          · have qhc2901 : n_1656.toInt = (1 : Int32).toInt := congrArg Int32.toInt hc2901
            by_cases hc2921 : ((2 : Int32) * n_1656) < (((v5 + (2 : Int32)) >>> ((6 : Int32) &&& 31)) + (1 : Int32))
            · have qhc2921 : ((2 : Int32) * n_1656).toInt < (((v5 + (2 : Int32)) >>> ((6 : Int32) &&& 31)) + (1 : Int32)).toInt := own_ilt hc2921
              have hsl : sl1656 = 0 := by omega
              obtain ⟨cq3271, kq3271, q3271a, q3271b, q3271c⟩ := isOf hZ e2869 c1656_3
              obtain ⟨_, _, ⟨T3271, L3271, k3271, n3271⟩, -, X3271, ⟨Lc3271, hQ3271, l3271, y3271, z3271⟩, st3271⟩ := X2869.virtualBack hx (y := Y20) (z := Y20) hown (mvT hZ (hw _ (tk 36 rfl))) (mvT hZ (hw _ (tk 37 rfl))) (notFace_of_selects (args := #[]) (mvT hZ (hw _ (tk 39 rfl)))) (mvT hZ (hw _ (tk 39 rfl))) (mvT hZ (hw _ (tk 38 rfl))) (by decide) (backOf (W := 0) (rm6x1 l Z a0 hw hv [] w_1 w_2 hS0 b64 (v5 + (2 : Int32)) w_1656 u_1656 kk1656 n_1656 F_1656 244 h1656 n0 O1656 g_b64 g_w_1656 c1656_3 c1656_5 c1656_6 c1656_4 c1656_7 ne_b64_w_1656 (own_nl' (by omega)) hc2873 hc2881 hc2921 (own_ne' (by omega)) (own_nl' (by omega)) (own_nl' (by omega)) (own_lt' (by omega)) (own_nl' (by omega)) (own_nat (by omega) (by omega)) (by decide)) hZ (hw _ (tk 40 rfl)) (hw _ (tk 11 rfl)) (by decide) (by decide)) q3271a q3271c (g := (mkF m 69 (lt6 p0 p1 p2 p3 p4 v5 b5) [(.int (v5 + (2 : Int32))), (.ref b64)])) rfl (by rw [hml]; rfl) (Steps.refl _) (argsL := [(.int (v5 + (2 : Int32)))]) (rest := []) (lenOf pd_1 rfl) rfl (by show 2 * 0 + _ ≤ _; exact Nat.le_of_eq rfl) (hb hby at_69) (fun _ _ => ⟨rfl, e2869, (by decide : 7 + 1 ≤ _), (by show (10 + sl1656) + (0 + (0 + (0 + (0 + 244)))) ≤ 1600; omega)⟩)
              dsimp only [Pt.U, Pt.locs, Pt.cells, Pt.slots] at X3271 l3271 y3271 z3271 st3271 hQ3271
              subst l3271 y3271 z3271
              obtain ⟨b3272, k3273, rv3271, N3271q, O3271, K3271c, Fe3271_0, Fe3271_1, Fe3271_2, Fx3271_0, Fx3271_1, Fx3271_2⟩ := hQ3271
              subst rv3271
              have N3271 := Fr.app N1656 N3271q
              have g_b3272 := Fx3271_0
              have ne_b5_b3272 : b5 ≠ b3272 := Nat.ne_of_lt (Nat.lt_of_lt_of_le c1656_0.lt Fx3271_1)
              have ne_b64_b3272 : b64 ≠ b3272 := Nat.ne_of_lt (Nat.lt_of_lt_of_le c1656_3.lt Fx3271_1)
              have ne_w_1656_b3272 : w_1656 ≠ b3272 := Nat.ne_of_lt (Nat.lt_of_lt_of_le c1656_7.lt Fx3271_1)
              have ne_b67_b3272 : b67 ≠ b3272 := Nat.ne_of_lt (Nat.lt_of_lt_of_le c1656_8.lt Fx3271_1)
              have ne_b68_b3272 : b68 ≠ b3272 := Nat.ne_of_lt (Nat.lt_of_lt_of_le c1656_12.lt Fx3271_1)
              have pre3274 : Cm p e below E0 (T3271.setTop (mkF m 72 (lt6 p0 p1 p2 p3 p4 v5 b5) [])) := fun t kt => by
                refine pre2872 t ?_
                show Sp p e below T2869 (mkF m 69 (lt6 p0 p1 p2 p3 p4 v5 b5) [(.int (v5 + (2 : Int32))), (.ref b64)]) _
                refine st3271.trans ?_
                show Sp p e below T3271 (mkF m 72 (lt6 p0 p1 p2 p3 p4 v5 b5) []) _
                exact kt
              have c3275 := (c1656_0.keep K3271c)
              have c3276 := (c1656_1.keep K3271c (ninS ne_b5_b64 nin0))
              have c3277 := (c1656_2.keep K3271c (ninS ne_b5_b64 nin0))
              have c3278 := (c1656_3.keep K3271c)
              have c3279 := (c1656_8.keep K3271c)
              have c3280 := (c1656_9.keep K3271c (ninS (Ne.symm Fx63_19) nin0))
              have c3281 := (c1656_10.keep K3271c (ninS (Ne.symm Fx63_19) nin0))
              have c3282 := (c1656_11.keep K3271c (ninS (Ne.symm Fx63_19) nin0))
              have c3283 := (c1656_12.keep K3271c (ninS (Ne.symm Fx63_20) nin0))
              exact ⟨_, _, _, b3272, k3273, (((v5 + (2 : Int32)) >>> ((6 : Int32) &&& 31)) + (1 : Int32)), (((v5 + (2 : Int32)) >>> ((6 : Int32) &&& 31)) + (1 : Int32)), (upF (ovF F_1656 (n_1656).toNatClampNeg (fun _ => (0 : Int64))) (((v5 + (2 : Int32)) >>> ((6 : Int32) &&& 31))).toNatClampNeg (((ovF F_1656 (n_1656).toNatClampNeg (fun _ => (0 : Int64))) (((v5 + (2 : Int32)) >>> ((6 : Int32) &&& 31))).toNatClampNeg) ||| ((1 : Int64) <<< ((v5 + (2 : Int32)) &&& 0x3f).toInt64))), (sl1656 + (0 + (0 + (0 + (0 + 244))))), X3271.more (by decide) (by show (10 + (sl1656 + (0 + (0 + (0 + (0 + 244)))))) ≤ (10 + (sl1656 + (0 + (0 + (0 + (0 + 244)))))); omega), rfl, O3271, N3271, c3275, c3276, c3277, c3278, Fe3271_2, Fe3271_0, Fe3271_1, Fx3271_2, c3279, c3280, c3281, c3282, c3283, ne_b5_b3272, ne_b64_b3272, ne_b67_b3272, ne_b68_b3272, g_b3272, (by omega), (by show _ ∨ _ ∨ _; omega), (own_setG hI_1656 (m := (4 : Int32)) rfl (by decide) hc2867 hB hi_2 hj_2 (by omega) (by omega) (by omega)), pre3274⟩
            · have qhc2921 : ¬ ((2 : Int32) * n_1656).toInt < (((v5 + (2 : Int32)) >>> ((6 : Int32) &&& 31)) + (1 : Int32)).toInt := own_inl hc2921
              have hsl : sl1656 = 0 := by omega
              obtain ⟨cq3633, kq3633, q3633a, q3633b, q3633c⟩ := isOf hZ e2869 c1656_3
              obtain ⟨_, _, ⟨T3633, L3633, k3633, n3633⟩, -, X3633, ⟨Lc3633, hQ3633, l3633, y3633, z3633⟩, st3633⟩ := X2869.virtualBack hx (y := Y20) (z := Y20) hown (mvT hZ (hw _ (tk 36 rfl))) (mvT hZ (hw _ (tk 37 rfl))) (notFace_of_selects (args := #[]) (mvT hZ (hw _ (tk 39 rfl)))) (mvT hZ (hw _ (tk 39 rfl))) (mvT hZ (hw _ (tk 38 rfl))) (by decide) (backOf (W := 0) (rm6x2 l Z a0 hw hv [] w_1 w_2 hS0 b64 (v5 + (2 : Int32)) w_1656 u_1656 kk1656 n_1656 F_1656 244 h1656 n0 O1656 g_b64 g_w_1656 c1656_3 c1656_5 c1656_6 c1656_4 c1656_7 ne_b64_w_1656 (own_nl' (by omega)) hc2873 hc2881 hc2921 (own_ne' (by omega)) (own_nl' (by omega)) (own_nl' (by omega)) (own_lt' (by omega)) (own_nl' (by omega)) (own_nat (by omega) (by omega)) (by decide)) hZ (hw _ (tk 40 rfl)) (hw _ (tk 11 rfl)) (by decide) (by decide)) q3633a q3633c (g := (mkF m 69 (lt6 p0 p1 p2 p3 p4 v5 b5) [(.int (v5 + (2 : Int32))), (.ref b64)])) rfl (by rw [hml]; rfl) (Steps.refl _) (argsL := [(.int (v5 + (2 : Int32)))]) (rest := []) (lenOf pd_1 rfl) rfl (by show 2 * 0 + _ ≤ _; exact Nat.le_of_eq rfl) (hb hby at_69) (fun _ _ => ⟨rfl, e2869, (by decide : 7 + 1 ≤ _), (by show (10 + sl1656) + (0 + (0 + (0 + (0 + 244)))) ≤ 1600; omega)⟩)
              dsimp only [Pt.U, Pt.locs, Pt.cells, Pt.slots] at X3633 l3633 y3633 z3633 st3633 hQ3633
              subst l3633 y3633 z3633
              obtain ⟨b3634, k3635, rv3633, N3633q, O3633, K3633c, Fe3633_0, Fe3633_1, Fe3633_2, Fx3633_0, Fx3633_1, Fx3633_2⟩ := hQ3633
              subst rv3633
              have N3633 := Fr.app N1656 N3633q
              have g_b3634 := Fx3633_0
              have ne_b5_b3634 : b5 ≠ b3634 := Nat.ne_of_lt (Nat.lt_of_lt_of_le c1656_0.lt Fx3633_1)
              have ne_b64_b3634 : b64 ≠ b3634 := Nat.ne_of_lt (Nat.lt_of_lt_of_le c1656_3.lt Fx3633_1)
              have ne_w_1656_b3634 : w_1656 ≠ b3634 := Nat.ne_of_lt (Nat.lt_of_lt_of_le c1656_7.lt Fx3633_1)
              have ne_b67_b3634 : b67 ≠ b3634 := Nat.ne_of_lt (Nat.lt_of_lt_of_le c1656_8.lt Fx3633_1)
              have ne_b68_b3634 : b68 ≠ b3634 := Nat.ne_of_lt (Nat.lt_of_lt_of_le c1656_12.lt Fx3633_1)
              have pre3636 : Cm p e below E0 (T3633.setTop (mkF m 72 (lt6 p0 p1 p2 p3 p4 v5 b5) [])) := fun t kt => by
                refine pre2872 t ?_
                show Sp p e below T2869 (mkF m 69 (lt6 p0 p1 p2 p3 p4 v5 b5) [(.int (v5 + (2 : Int32))), (.ref b64)]) _
                refine st3633.trans ?_
                show Sp p e below T3633 (mkF m 72 (lt6 p0 p1 p2 p3 p4 v5 b5) []) _
                exact kt
              have c3637 := (c1656_0.keep K3633c)
              have c3638 := (c1656_1.keep K3633c (ninS ne_b5_b64 nin0))
              have c3639 := (c1656_2.keep K3633c (ninS ne_b5_b64 nin0))
              have c3640 := (c1656_3.keep K3633c)
              have c3641 := (c1656_8.keep K3633c)
              have c3642 := (c1656_9.keep K3633c (ninS (Ne.symm Fx63_19) nin0))
              have c3643 := (c1656_10.keep K3633c (ninS (Ne.symm Fx63_19) nin0))
              have c3644 := (c1656_11.keep K3633c (ninS (Ne.symm Fx63_19) nin0))
              have c3645 := (c1656_12.keep K3633c (ninS (Ne.symm Fx63_20) nin0))
              exact ⟨_, _, _, b3634, k3635, ((2 : Int32) * n_1656), (((v5 + (2 : Int32)) >>> ((6 : Int32) &&& 31)) + (1 : Int32)), (upF (ovF F_1656 (n_1656).toNatClampNeg (fun _ => (0 : Int64))) (((v5 + (2 : Int32)) >>> ((6 : Int32) &&& 31))).toNatClampNeg (((ovF F_1656 (n_1656).toNatClampNeg (fun _ => (0 : Int64))) (((v5 + (2 : Int32)) >>> ((6 : Int32) &&& 31))).toNatClampNeg) ||| ((1 : Int64) <<< ((v5 + (2 : Int32)) &&& 0x3f).toInt64))), (sl1656 + (0 + (0 + (0 + (0 + 244))))), X3633.more (by decide) (by show (10 + (sl1656 + (0 + (0 + (0 + (0 + 244)))))) ≤ (10 + (sl1656 + (0 + (0 + (0 + (0 + 244)))))); omega), rfl, O3633, N3633, c3637, c3638, c3639, c3640, Fe3633_2, Fe3633_0, Fe3633_1, Fx3633_2, c3641, c3642, c3643, c3644, c3645, ne_b5_b3634, ne_b64_b3634, ne_b67_b3634, ne_b68_b3634, g_b3634, (by omega), (by show _ ∨ _ ∨ _; omega), (own_setG hI_1656 (m := (4 : Int32)) rfl (by decide) hc2867 hB hi_2 hj_2 (by omega) (by omega) (by omega)), pre3636⟩
          · have qhc2901 : ¬ n_1656.toInt = (1 : Int32).toInt := own_ine hc2901
            have hsl : sl1656 ≤ 244 := by omega
            obtain ⟨cq3995, kq3995, q3995a, q3995b, q3995c⟩ := isOf hZ e2869 c1656_3
            obtain ⟨_, _, ⟨T3995, L3995, k3995, n3995⟩, -, X3995, ⟨Lc3995, hQ3995, l3995, y3995, z3995⟩, st3995⟩ := X2869.virtualBack hx (y := Y20) (z := Y20) hown (mvT hZ (hw _ (tk 36 rfl))) (mvT hZ (hw _ (tk 37 rfl))) (notFace_of_selects (args := #[]) (mvT hZ (hw _ (tk 39 rfl)))) (mvT hZ (hw _ (tk 39 rfl))) (mvT hZ (hw _ (tk 38 rfl))) (by decide) (backOf (W := 0) (rm6x2 l Z a0 hw hv [] w_1 w_2 hS0 b64 (v5 + (2 : Int32)) w_1656 u_1656 kk1656 n_1656 F_1656 488 h1656 n0 O1656 g_b64 g_w_1656 c1656_3 c1656_5 c1656_6 c1656_4 c1656_7 ne_b64_w_1656 (own_nl' (by omega)) hc2873 hc2881 (own_nl' (by omega)) (own_ne' (by omega)) (own_nl' (by omega)) (own_nl' (by omega)) (own_lt' (by omega)) (own_nl' (by omega)) (own_nat (by omega) (by omega)) (by decide)) hZ (hw _ (tk 40 rfl)) (hw _ (tk 11 rfl)) (by decide) (by decide)) q3995a q3995c (g := (mkF m 69 (lt6 p0 p1 p2 p3 p4 v5 b5) [(.int (v5 + (2 : Int32))), (.ref b64)])) rfl (by rw [hml]; rfl) (Steps.refl _) (argsL := [(.int (v5 + (2 : Int32)))]) (rest := []) (lenOf pd_1 rfl) rfl (by show 2 * 0 + _ ≤ _; exact Nat.le_of_eq rfl) (hb hby at_69) (fun _ _ => ⟨rfl, e2869, (by decide : 7 + 1 ≤ _), (by show (10 + sl1656) + (0 + (0 + (0 + (0 + 488)))) ≤ 1600; omega)⟩)
            dsimp only [Pt.U, Pt.locs, Pt.cells, Pt.slots] at X3995 l3995 y3995 z3995 st3995 hQ3995
            subst l3995 y3995 z3995
            obtain ⟨b3996, k3997, rv3995, N3995q, O3995, K3995c, Fe3995_0, Fe3995_1, Fe3995_2, Fx3995_0, Fx3995_1, Fx3995_2⟩ := hQ3995
            subst rv3995
            have N3995 := Fr.app N1656 N3995q
            have g_b3996 := Fx3995_0
            have ne_b5_b3996 : b5 ≠ b3996 := Nat.ne_of_lt (Nat.lt_of_lt_of_le c1656_0.lt Fx3995_1)
            have ne_b64_b3996 : b64 ≠ b3996 := Nat.ne_of_lt (Nat.lt_of_lt_of_le c1656_3.lt Fx3995_1)
            have ne_w_1656_b3996 : w_1656 ≠ b3996 := Nat.ne_of_lt (Nat.lt_of_lt_of_le c1656_7.lt Fx3995_1)
            have ne_b67_b3996 : b67 ≠ b3996 := Nat.ne_of_lt (Nat.lt_of_lt_of_le c1656_8.lt Fx3995_1)
            have ne_b68_b3996 : b68 ≠ b3996 := Nat.ne_of_lt (Nat.lt_of_lt_of_le c1656_12.lt Fx3995_1)
            have pre3998 : Cm p e below E0 (T3995.setTop (mkF m 72 (lt6 p0 p1 p2 p3 p4 v5 b5) [])) := fun t kt => by
              refine pre2872 t ?_
              show Sp p e below T2869 (mkF m 69 (lt6 p0 p1 p2 p3 p4 v5 b5) [(.int (v5 + (2 : Int32))), (.ref b64)]) _
              refine st3995.trans ?_
              show Sp p e below T3995 (mkF m 72 (lt6 p0 p1 p2 p3 p4 v5 b5) []) _
              exact kt
            have c3999 := (c1656_0.keep K3995c)
            have c4000 := (c1656_1.keep K3995c (ninS ne_b5_b64 nin0))
            have c4001 := (c1656_2.keep K3995c (ninS ne_b5_b64 nin0))
            have c4002 := (c1656_3.keep K3995c)
            have c4003 := (c1656_8.keep K3995c)
            have c4004 := (c1656_9.keep K3995c (ninS (Ne.symm Fx63_19) nin0))
            have c4005 := (c1656_10.keep K3995c (ninS (Ne.symm Fx63_19) nin0))
            have c4006 := (c1656_11.keep K3995c (ninS (Ne.symm Fx63_19) nin0))
            have c4007 := (c1656_12.keep K3995c (ninS (Ne.symm Fx63_20) nin0))
            exact ⟨_, _, _, b3996, k3997, ((2 : Int32) * n_1656), (((v5 + (2 : Int32)) >>> ((6 : Int32) &&& 31)) + (1 : Int32)), (upF (ovF F_1656 (n_1656).toNatClampNeg (fun _ => (0 : Int64))) (((v5 + (2 : Int32)) >>> ((6 : Int32) &&& 31))).toNatClampNeg (((ovF F_1656 (n_1656).toNatClampNeg (fun _ => (0 : Int64))) (((v5 + (2 : Int32)) >>> ((6 : Int32) &&& 31))).toNatClampNeg) ||| ((1 : Int64) <<< ((v5 + (2 : Int32)) &&& 0x3f).toInt64))), (sl1656 + (0 + (0 + (0 + (0 + 488))))), X3995.more (by decide) (by show (10 + (sl1656 + (0 + (0 + (0 + (0 + 488)))))) ≤ (10 + (sl1656 + (0 + (0 + (0 + (0 + 488)))))); omega), rfl, O3995, N3995, c3999, c4000, c4001, c4002, Fe3995_2, Fe3995_0, Fe3995_1, Fx3995_2, c4003, c4004, c4005, c4006, c4007, ne_b5_b3996, ne_b64_b3996, ne_b67_b3996, ne_b68_b3996, g_b3996, (by omega), (by show _ ∨ _ ∨ _; omega), (own_setG hI_1656 (m := (4 : Int32)) rfl (by decide) hc2867 hB hi_2 hj_2 (by omega) (by omega) (by omega)), pre3998⟩
        · have qhc2881 : ¬ n_1656.toInt < (((v5 + (2 : Int32)) >>> ((6 : Int32) &&& 31)) + (1 : Int32)).toInt := own_inl hc2881
          obtain ⟨cq4033, kq4033, q4033a, q4033b, q4033c⟩ := isOf hZ e2869 c1656_3
          obtain ⟨_, _, ⟨T4033, L4033, k4033, n4033⟩, -, X4033, ⟨Lc4033, hQ4033, l4033, y4033, z4033⟩, st4033⟩ := X2869.virtualBack hx (y := Y20) (z := Y20) hown (mvT hZ (hw _ (tk 36 rfl))) (mvT hZ (hw _ (tk 37 rfl))) (notFace_of_selects (args := #[]) (mvT hZ (hw _ (tk 39 rfl)))) (mvT hZ (hw _ (tk 39 rfl))) (mvT hZ (hw _ (tk 38 rfl))) (by decide) (backOf (W := 0) (rm6x3 l Z a0 hw hv [] w_1 w_2 hS0 b64 (v5 + (2 : Int32)) w_1656 u_1656 kk1656 n_1656 F_1656 h1656 n0 O1656 g_b64 g_w_1656 c1656_3 c1656_5 c1656_6 c1656_4 c1656_7 ne_b64_w_1656 (own_nl' (by omega)) hc2873 hc2881 (own_lt' (by omega)) (own_nl' (by omega))) hZ (hw _ (tk 40 rfl)) (hw _ (tk 11 rfl)) (by decide) (by decide)) q4033a q4033c (g := (mkF m 69 (lt6 p0 p1 p2 p3 p4 v5 b5) [(.int (v5 + (2 : Int32))), (.ref b64)])) rfl (by rw [hml]; rfl) (Steps.refl _) (argsL := [(.int (v5 + (2 : Int32)))]) (rest := []) (lenOf pd_1 rfl) rfl (by show 2 * 0 + _ ≤ _; exact Nat.le_of_eq rfl) (hb hby at_69) (fun _ _ => ⟨rfl, e2869, (by decide : 7 + 0 ≤ _), (by show (10 + sl1656) + 0 ≤ 1600; omega)⟩)
          dsimp only [Pt.U, Pt.locs, Pt.cells, Pt.slots] at X4033 l4033 y4033 z4033 st4033 hQ4033
          subst l4033 y4033 z4033
          obtain ⟨rv4033, N4033q, O4033, K4033c, Fe4033_0, Fe4033_1, Fe4033_2, Fe4033_3⟩ := hQ4033
          subst rv4033
          have N4033 := Fr.app N1656 N4033q
          have pre4034 : Cm p e below E0 (T4033.setTop (mkF m 72 (lt6 p0 p1 p2 p3 p4 v5 b5) [])) := fun t kt => by
            refine pre2872 t ?_
            show Sp p e below T2869 (mkF m 69 (lt6 p0 p1 p2 p3 p4 v5 b5) [(.int (v5 + (2 : Int32))), (.ref b64)]) _
            refine st4033.trans ?_
            show Sp p e below T4033 (mkF m 72 (lt6 p0 p1 p2 p3 p4 v5 b5) []) _
            exact kt
          have c4035 := (c1656_0.keep K4033c)
          have c4036 := (c1656_1.keep K4033c (ninS ne_b5_b64 (ninS ne_b5_w_1656 nin0)))
          have c4037 := (c1656_2.keep K4033c (ninS ne_b5_b64 (ninS ne_b5_w_1656 nin0)))
          have c4038 := (c1656_3.keep K4033c)
          have c4039 := (c1656_8.keep K4033c)
          have c4040 := (c1656_9.keep K4033c (ninS (Ne.symm Fx63_19) (ninS ne_b67_w_1656 nin0)))
          have c4041 := (c1656_10.keep K4033c (ninS (Ne.symm Fx63_19) (ninS ne_b67_w_1656 nin0)))
          have c4042 := (c1656_11.keep K4033c (ninS (Ne.symm Fx63_19) (ninS ne_b67_w_1656 nin0)))
          have c4043 := (c1656_12.keep K4033c (ninS (Ne.symm Fx63_20) (ninS ne_b68_w_1656 nin0)))
          exact ⟨_, _, _, w_1656, kk1656, n_1656, (((v5 + (2 : Int32)) >>> ((6 : Int32) &&& 31)) + (1 : Int32)), (upF F_1656 (((v5 + (2 : Int32)) >>> ((6 : Int32) &&& 31))).toNatClampNeg ((F_1656 (((v5 + (2 : Int32)) >>> ((6 : Int32) &&& 31))).toNatClampNeg) ||| ((1 : Int64) <<< ((v5 + (2 : Int32)) &&& 0x3f).toInt64))), sl1656, X4033.more (by decide) (by show (10 + sl1656) ≤ (10 + sl1656); omega), rfl, O4033, N4033, c4035, c4036, c4037, c4038, Fe4033_2, Fe4033_0, Fe4033_1, Fe4033_3, c4039, c4040, c4041, c4042, c4043, ne_b5_w_1656, ne_b64_w_1656, ne_b67_w_1656, ne_b68_w_1656, g_w_1656, (by omega), (by show _ ∨ _ ∨ _; omega), (own_set hI_1656 (m := (4 : Int32)) rfl (by decide) hc2867 hB hi_2 hj_2 (by omega) (by omega)), pre4034⟩
      · have qhc2873 : ¬ u_1656.toInt < (((v5 + (2 : Int32)) >>> ((6 : Int32) &&& 31)) + (1 : Int32)).toInt := own_inl hc2873
        obtain ⟨cq4060, kq4060, q4060a, q4060b, q4060c⟩ := isOf hZ e2869 c1656_3
        obtain ⟨_, _, ⟨T4060, L4060, k4060, n4060⟩, -, X4060, ⟨Lc4060, hQ4060, l4060, y4060, z4060⟩, st4060⟩ := X2869.virtualBack hx (y := Y20) (z := Y20) hown (mvT hZ (hw _ (tk 36 rfl))) (mvT hZ (hw _ (tk 37 rfl))) (notFace_of_selects (args := #[]) (mvT hZ (hw _ (tk 39 rfl)))) (mvT hZ (hw _ (tk 39 rfl))) (mvT hZ (hw _ (tk 38 rfl))) (by decide) (backOf (W := 0) (rm6x4 l Z a0 hw hv [] w_1 w_2 hS0 b64 (v5 + (2 : Int32)) w_1656 u_1656 kk1656 n_1656 F_1656 h1656 n0 O1656 g_b64 g_w_1656 c1656_3 c1656_5 c1656_6 c1656_4 c1656_7 ne_b64_w_1656 (own_nl' (by omega)) hc2873 (own_lt' (by omega)) (own_nl' (by omega))) hZ (hw _ (tk 40 rfl)) (hw _ (tk 11 rfl)) (by decide) (by decide)) q4060a q4060c (g := (mkF m 69 (lt6 p0 p1 p2 p3 p4 v5 b5) [(.int (v5 + (2 : Int32))), (.ref b64)])) rfl (by rw [hml]; rfl) (Steps.refl _) (argsL := [(.int (v5 + (2 : Int32)))]) (rest := []) (lenOf pd_1 rfl) rfl (by show 2 * 0 + _ ≤ _; exact Nat.le_of_eq rfl) (hb hby at_69) (fun _ _ => ⟨rfl, e2869, (by decide : 7 + 0 ≤ _), (by show (10 + sl1656) + 0 ≤ 1600; omega)⟩)
        dsimp only [Pt.U, Pt.locs, Pt.cells, Pt.slots] at X4060 l4060 y4060 z4060 st4060 hQ4060
        subst l4060 y4060 z4060
        obtain ⟨rv4060, N4060q, O4060, K4060c, Fe4060_0⟩ := hQ4060
        subst rv4060
        have N4060 := Fr.app N1656 N4060q
        have pre4061 : Cm p e below E0 (T4060.setTop (mkF m 72 (lt6 p0 p1 p2 p3 p4 v5 b5) [])) := fun t kt => by
          refine pre2872 t ?_
          show Sp p e below T2869 (mkF m 69 (lt6 p0 p1 p2 p3 p4 v5 b5) [(.int (v5 + (2 : Int32))), (.ref b64)]) _
          refine st4060.trans ?_
          show Sp p e below T4060 (mkF m 72 (lt6 p0 p1 p2 p3 p4 v5 b5) []) _
          exact kt
        have c4062 := (c1656_0.keep K4060c)
        have c4063 := (c1656_1.keep K4060c (ninS ne_b5_w_1656 nin0))
        have c4064 := (c1656_2.keep K4060c (ninS ne_b5_w_1656 nin0))
        have c4065 := (c1656_3.keep K4060c)
        have c4066 := (c1656_4.keep K4060c (ninS ne_b64_w_1656 nin0))
        have c4067 := (c1656_5.keep K4060c (ninS ne_b64_w_1656 nin0))
        have c4068 := (c1656_6.keep K4060c (ninS ne_b64_w_1656 nin0))
        have c4069 := (c1656_8.keep K4060c)
        have c4070 := (c1656_9.keep K4060c (ninS ne_b67_w_1656 nin0))
        have c4071 := (c1656_10.keep K4060c (ninS ne_b67_w_1656 nin0))
        have c4072 := (c1656_11.keep K4060c (ninS ne_b67_w_1656 nin0))
        have c4073 := (c1656_12.keep K4060c (ninS ne_b68_w_1656 nin0))
        exact ⟨_, _, _, w_1656, kk1656, n_1656, u_1656, (upF F_1656 (((v5 + (2 : Int32)) >>> ((6 : Int32) &&& 31))).toNatClampNeg ((F_1656 (((v5 + (2 : Int32)) >>> ((6 : Int32) &&& 31))).toNatClampNeg) ||| ((1 : Int64) <<< ((v5 + (2 : Int32)) &&& 0x3f).toInt64))), sl1656, X4060.more (by decide) (by show (10 + sl1656) ≤ (10 + sl1656); omega), rfl, O4060, N4060, c4062, c4063, c4064, c4065, c4066, c4067, c4068, Fe4060_0, c4069, c4070, c4071, c4072, c4073, ne_b5_w_1656, ne_b64_w_1656, ne_b67_w_1656, ne_b68_w_1656, g_w_1656, (by omega), (by show _ ∨ _ ∨ _; omega), (own_set hI_1656 (m := (4 : Int32)) rfl (by decide) hc2867 hB hi_2 hj_2 (by omega) (by omega)), pre4061⟩
  have h2_2865 : ((2 : Int32) * n_2865).toInt = 2 * (n_2865).toInt := own_dbl _ (by omega) (by omega)
  obtain ⟨T4074, h4074, L4074, w_4074, kk4074, n_4074, u_4074, F_4074, sl4074, X4074, e4074, O4074, N4074, c4074_0, c4074_1, c4074_2, c4074_3, c4074_4, c4074_5, c4074_6, c4074_7, c4074_8, c4074_9, c4074_10, c4074_11, c4074_12, ne_b5_w_4074, ne_b64_w_4074, ne_b67_w_4074, ne_b68_w_4074, g_w_4074, hr_4074, hs_4074, hI_4074, pre4074⟩ : ∃ (T4074 : State) (h4074 : Heap) (L4074 : List Loc) (w_4074 : Addr) (kk4074 : ClassId) (n_4074 : Int32) (u_4074 : Int32) (F_4074 : Nat → Int64) (sl4074 : Nat), Stand p l e room_1 s m #[(.int p0), (.int p1), (.int p2), (.int p3), (.int p4)] below meth c T4074 L4074 9 (10 + sl4074) ∧ T4074.heap = h4074 ∧ Old Z n0 h4074 ∧ Fr n0 L4074 ∧ Exa Z h4074 b5 "com/example/vetd/vetd/Policy$Lines" ∧ Fld Z h4074 b5 "com/example/vetd/vetd/Policy$Lines" "permitted" "Ljava/util/BitSet;" (.ref b64) ∧ Fld Z h4074 b5 "com/example/vetd/vetd/Policy$Lines" "denied" "Ljava/util/BitSet;" (.ref b67) ∧ Exa Z h4074 b64 "java/util/BitSet" ∧ Fld Z h4074 b64 "java/util/BitSet" "wordsInUse" "I" (.int u_4074) ∧ Fld Z h4074 b64 "java/util/BitSet" "sizeIsSticky" "Z" (.int (0 : Int32)) ∧ Fld Z h4074 b64 "java/util/BitSet" "words" "[J" (.ref w_4074) ∧ Arj Z h4074 w_4074 kk4074 n_4074 F_4074 ∧ Exa Z h4074 b67 "java/util/BitSet" ∧ Fld Z h4074 b67 "java/util/BitSet" "wordsInUse" "I" (.int (0 : Int32)) ∧ Fld Z h4074 b67 "java/util/BitSet" "sizeIsSticky" "Z" (.int (0 : Int32)) ∧ Fld Z h4074 b67 "java/util/BitSet" "words" "[J" (.ref b68) ∧ Arj Z h4074 b68 k69 ((((64 : Int32) - (1 : Int32)) >>> ((6 : Int32) &&& 31)) + (1 : Int32)) (fun _ => (0 : Int64)) ∧ b5 ≠ w_4074 ∧ b64 ≠ w_4074 ∧ b67 ≠ w_4074 ∧ b68 ≠ w_4074 ∧ n0 ≤ w_4074 ∧ (1 ≤ (n_4074).toInt ∧ (n_4074).toInt ≤ 488 ∧ 0 ≤ (u_4074).toInt ∧ (u_4074).toInt ≤ (n_4074).toInt ∧ sl4074 ≤ 732) ∧ StB (v5).toInt n_4074 sl4074 ∧ InvC v5 p0 4 u_4074 F_4074 ∧ Cm p e below E0 (T4074.setTop (mkF m 91 (lt6 p0 p1 p2 p3 p4 v5 b5) [])) := by
    have qst : ((n_2865).toInt = 1 ∧ sl2865 = 0) ∨ ((n_2865).toInt = (v5).toInt / 64 + 1 ∧ 2 ≤ (n_2865).toInt ∧ sl2865 ≤ 244) ∨ (((v5).toInt + 3) / 64 + 1 ≤ (n_2865).toInt ∧ sl2865 ≤ 732) := hs_2865
    have pre4075 : Cm p e below E0 (T2865.setTop (mkF m 76 (lt6 p0 p1 p2 p3 p4 v5 b5) [(.int (p0 &&& (8 : Int32)))])) := fun t kt => by
      refine pre2865 t ?_
      show Sp p e below T2865 (mkF m 72 (lt6 p0 p1 p2 p3 p4 v5 b5) []) _
      refine XS.iloadN X2865.here hx rfl (hb hby at_72) rfl ?_
      refine XS.bipush X2865.here hx rfl (hb hby at_73) ?_
      show Sp p e below T2865 (mkF m 75 (lt6 p0 p1 p2 p3 p4 v5 b5) [(.int (8 : Int32)), (.int p0)]) _
      refine XS.iand X2865.here hx rfl (hb hby at_75) rfl ?_
      show Sp p e below T2865 (mkF m 76 (lt6 p0 p1 p2 p3 p4 v5 b5) [(.int (p0 &&& (8 : Int32)))]) _
      exact kt
    by_cases hc4076 : (p0 &&& (8 : Int32)) = (0 : Int32)
    · have pre4077 : Cm p e below E0 (T2865.setTop (mkF m 91 (lt6 p0 p1 p2 p3 p4 v5 b5) [])) := fun t kt => by
        refine pre4075 t ?_
        show Sp p e below T2865 (mkF m 76 (lt6 p0 p1 p2 p3 p4 v5 b5) [(.int (p0 &&& (8 : Int32)))]) _
        refine XS.ifYes X2865.here hx rfl (pc0 := 76) (pc' := 91) rfl (hb hby at_76) rfl ((if0 _ _).trans (teq hc4076).1) (by decide) (by decide) ?_
        show Sp p e below T2865 (mkF m 91 (lt6 p0 p1 p2 p3 p4 v5 b5) []) _
        exact kt
      exact ⟨_, _, _, w_2865, kk2865, n_2865, u_2865, F_2865, sl2865, X2865.more (by decide) (by show (10 + sl2865) ≤ (10 + sl2865); omega), e2865, O2865, N2865, c2865_0, c2865_1, c2865_2, c2865_3, c2865_4, c2865_5, c2865_6, c2865_7, c2865_8, c2865_9, c2865_10, c2865_11, c2865_12, ne_b5_w_2865, ne_b64_w_2865, ne_b67_w_2865, ne_b68_w_2865, g_w_2865, (by omega), (by show _ ∨ _ ∨ _; omega), (own_skip hI_2865 (m := (8 : Int32)) rfl (by decide) hc4076), pre4077⟩
    · obtain ⟨T4078, X4078, e4078, st4078⟩ := getF X2865 hx hZ hown (host := "") (Or.inl (hw _ (tk 72 rfl))) Via.refl e2865 c2865_1 (g := (mkF m 81 (lt6 p0 p1 p2 p3 p4 v5 b5) [(.ref b5)])) rfl rfl (hb hby at_81)
      have pre4081 : Cm p e below E0 (T4078.setTop (mkF m 88 (lt6 p0 p1 p2 p3 p4 v5 b5) [(.int (v5 + (3 : Int32))), (.ref b64)])) := fun t kt => by
        refine pre4075 t ?_
        show Sp p e below T2865 (mkF m 76 (lt6 p0 p1 p2 p3 p4 v5 b5) [(.int (p0 &&& (8 : Int32)))]) _
        refine XS.ifNo X2865.here hx rfl (hb hby at_76) rfl ((if0 _ _).trans (feq hc4076).1) ?_
        show Sp p e below T2865 (mkF m 79 (lt6 p0 p1 p2 p3 p4 v5 b5) []) _
        refine XS.aload X2865.here hx rfl (hb hby at_79) rfl rfl ?_
        show Sp p e below T2865 (mkF m 81 (lt6 p0 p1 p2 p3 p4 v5 b5) [(.ref b5)]) _
        refine st4078 _ ?_
        show Sp p e below T4078 (mkF m 84 (lt6 p0 p1 p2 p3 p4 v5 b5) [(.ref b64)]) _
        refine XS.iload X4078.here hx rfl (hb hby at_84) rfl ?_
        refine XS.iconst X4078.here hx rfl (hb hby at_86) ?_
        show Sp p e below T4078 (mkF m 87 (lt6 p0 p1 p2 p3 p4 v5 b5) [(.int (3 : Int32)), (.int v5), (.ref b64)]) _
        refine XS.iadd X4078.here hx rfl (hb hby at_87) rfl ?_
        show Sp p e below T4078 (mkF m 88 (lt6 p0 p1 p2 p3 p4 v5 b5) [(.int (v5 + (3 : Int32))), (.ref b64)]) _
        exact kt
      by_cases hc4082 : u_2865 < (((v5 + (3 : Int32)) >>> ((6 : Int32) &&& 31)) + (1 : Int32))
      · have qhc4082 : u_2865.toInt < (((v5 + (3 : Int32)) >>> ((6 : Int32) &&& 31)) + (1 : Int32)).toInt := own_ilt hc4082
        by_cases hc4090 : n_2865 < (((v5 + (3 : Int32)) >>> ((6 : Int32) &&& 31)) + (1 : Int32))
        · have qhc4090 : n_2865.toInt < (((v5 + (3 : Int32)) >>> ((6 : Int32) &&& 31)) + (1 : Int32)).toInt := own_ilt hc4090
          by_cases hc4110 : n_2865 = (1 : Int32)
          · have qhc4110 : n_2865.toInt = (1 : Int32).toInt := congrArg Int32.toInt hc4110
            by_cases hc4130 : ((2 : Int32) * n_2865) < (((v5 + (3 : Int32)) >>> ((6 : Int32) &&& 31)) + (1 : Int32))
            · have qhc4130 : ((2 : Int32) * n_2865).toInt < (((v5 + (3 : Int32)) >>> ((6 : Int32) &&& 31)) + (1 : Int32)).toInt := own_ilt hc4130
              have hsl : sl2865 = 0 := by omega
              obtain ⟨cq4480, kq4480, q4480a, q4480b, q4480c⟩ := isOf hZ e4078 c2865_3
              obtain ⟨_, _, ⟨T4480, L4480, k4480, n4480⟩, -, X4480, ⟨Lc4480, hQ4480, l4480, y4480, z4480⟩, st4480⟩ := X4078.virtualBack hx (y := Y20) (z := Y20) hown (mvT hZ (hw _ (tk 36 rfl))) (mvT hZ (hw _ (tk 37 rfl))) (notFace_of_selects (args := #[]) (mvT hZ (hw _ (tk 39 rfl)))) (mvT hZ (hw _ (tk 39 rfl))) (mvT hZ (hw _ (tk 38 rfl))) (by decide) (backOf (W := 0) (rm6x1 l Z a0 hw hv [] w_1 w_2 hS0 b64 (v5 + (3 : Int32)) w_2865 u_2865 kk2865 n_2865 F_2865 244 h2865 n0 O2865 g_b64 g_w_2865 c2865_3 c2865_5 c2865_6 c2865_4 c2865_7 ne_b64_w_2865 (own_nl' (by omega)) hc4082 hc4090 hc4130 (own_ne' (by omega)) (own_nl' (by omega)) (own_nl' (by omega)) (own_lt' (by omega)) (own_nl' (by omega)) (own_nat (by omega) (by omega)) (by decide)) hZ (hw _ (tk 40 rfl)) (hw _ (tk 11 rfl)) (by decide) (by decide)) q4480a q4480c (g := (mkF m 88 (lt6 p0 p1 p2 p3 p4 v5 b5) [(.int (v5 + (3 : Int32))), (.ref b64)])) rfl (by rw [hml]; rfl) (Steps.refl _) (argsL := [(.int (v5 + (3 : Int32)))]) (rest := []) (lenOf pd_1 rfl) rfl (by show 2 * 0 + _ ≤ _; exact Nat.le_of_eq rfl) (hb hby at_88) (fun _ _ => ⟨rfl, e4078, (by decide : 8 + 1 ≤ _), (by show (10 + sl2865) + (0 + (0 + (0 + (0 + 244)))) ≤ 1600; omega)⟩)
              dsimp only [Pt.U, Pt.locs, Pt.cells, Pt.slots] at X4480 l4480 y4480 z4480 st4480 hQ4480
              subst l4480 y4480 z4480
              obtain ⟨b4481, k4482, rv4480, N4480q, O4480, K4480c, Fe4480_0, Fe4480_1, Fe4480_2, Fx4480_0, Fx4480_1, Fx4480_2⟩ := hQ4480
              subst rv4480
              have N4480 := Fr.app N2865 N4480q
              have g_b4481 := Fx4480_0
              have ne_b5_b4481 : b5 ≠ b4481 := Nat.ne_of_lt (Nat.lt_of_lt_of_le c2865_0.lt Fx4480_1)
              have ne_b64_b4481 : b64 ≠ b4481 := Nat.ne_of_lt (Nat.lt_of_lt_of_le c2865_3.lt Fx4480_1)
              have ne_w_2865_b4481 : w_2865 ≠ b4481 := Nat.ne_of_lt (Nat.lt_of_lt_of_le c2865_7.lt Fx4480_1)
              have ne_b67_b4481 : b67 ≠ b4481 := Nat.ne_of_lt (Nat.lt_of_lt_of_le c2865_8.lt Fx4480_1)
              have ne_b68_b4481 : b68 ≠ b4481 := Nat.ne_of_lt (Nat.lt_of_lt_of_le c2865_12.lt Fx4480_1)
              have pre4483 : Cm p e below E0 (T4480.setTop (mkF m 91 (lt6 p0 p1 p2 p3 p4 v5 b5) [])) := fun t kt => by
                refine pre4081 t ?_
                show Sp p e below T4078 (mkF m 88 (lt6 p0 p1 p2 p3 p4 v5 b5) [(.int (v5 + (3 : Int32))), (.ref b64)]) _
                refine st4480.trans ?_
                show Sp p e below T4480 (mkF m 91 (lt6 p0 p1 p2 p3 p4 v5 b5) []) _
                exact kt
              have c4484 := (c2865_0.keep K4480c)
              have c4485 := (c2865_1.keep K4480c (ninS ne_b5_b64 nin0))
              have c4486 := (c2865_2.keep K4480c (ninS ne_b5_b64 nin0))
              have c4487 := (c2865_3.keep K4480c)
              have c4488 := (c2865_8.keep K4480c)
              have c4489 := (c2865_9.keep K4480c (ninS (Ne.symm Fx63_19) nin0))
              have c4490 := (c2865_10.keep K4480c (ninS (Ne.symm Fx63_19) nin0))
              have c4491 := (c2865_11.keep K4480c (ninS (Ne.symm Fx63_19) nin0))
              have c4492 := (c2865_12.keep K4480c (ninS (Ne.symm Fx63_20) nin0))
              exact ⟨_, _, _, b4481, k4482, (((v5 + (3 : Int32)) >>> ((6 : Int32) &&& 31)) + (1 : Int32)), (((v5 + (3 : Int32)) >>> ((6 : Int32) &&& 31)) + (1 : Int32)), (upF (ovF F_2865 (n_2865).toNatClampNeg (fun _ => (0 : Int64))) (((v5 + (3 : Int32)) >>> ((6 : Int32) &&& 31))).toNatClampNeg (((ovF F_2865 (n_2865).toNatClampNeg (fun _ => (0 : Int64))) (((v5 + (3 : Int32)) >>> ((6 : Int32) &&& 31))).toNatClampNeg) ||| ((1 : Int64) <<< ((v5 + (3 : Int32)) &&& 0x3f).toInt64))), (sl2865 + (0 + (0 + (0 + (0 + 244))))), X4480.more (by decide) (by show (10 + (sl2865 + (0 + (0 + (0 + (0 + 244)))))) ≤ (10 + (sl2865 + (0 + (0 + (0 + (0 + 244)))))); omega), rfl, O4480, N4480, c4484, c4485, c4486, c4487, Fe4480_2, Fe4480_0, Fe4480_1, Fx4480_2, c4488, c4489, c4490, c4491, c4492, ne_b5_b4481, ne_b64_b4481, ne_b67_b4481, ne_b68_b4481, g_b4481, (by omega), (by show _ ∨ _ ∨ _; omega), (own_setG hI_2865 (m := (8 : Int32)) rfl (by decide) hc4076 hB hi_3 hj_3 (by omega) (by omega) (by omega)), pre4483⟩
            · have qhc4130 : ¬ ((2 : Int32) * n_2865).toInt < (((v5 + (3 : Int32)) >>> ((6 : Int32) &&& 31)) + (1 : Int32)).toInt := own_inl hc4130
              have hsl : sl2865 = 0 := by omega
              obtain ⟨cq4842, kq4842, q4842a, q4842b, q4842c⟩ := isOf hZ e4078 c2865_3
              obtain ⟨_, _, ⟨T4842, L4842, k4842, n4842⟩, -, X4842, ⟨Lc4842, hQ4842, l4842, y4842, z4842⟩, st4842⟩ := X4078.virtualBack hx (y := Y20) (z := Y20) hown (mvT hZ (hw _ (tk 36 rfl))) (mvT hZ (hw _ (tk 37 rfl))) (notFace_of_selects (args := #[]) (mvT hZ (hw _ (tk 39 rfl)))) (mvT hZ (hw _ (tk 39 rfl))) (mvT hZ (hw _ (tk 38 rfl))) (by decide) (backOf (W := 0) (rm6x2 l Z a0 hw hv [] w_1 w_2 hS0 b64 (v5 + (3 : Int32)) w_2865 u_2865 kk2865 n_2865 F_2865 244 h2865 n0 O2865 g_b64 g_w_2865 c2865_3 c2865_5 c2865_6 c2865_4 c2865_7 ne_b64_w_2865 (own_nl' (by omega)) hc4082 hc4090 hc4130 (own_ne' (by omega)) (own_nl' (by omega)) (own_nl' (by omega)) (own_lt' (by omega)) (own_nl' (by omega)) (own_nat (by omega) (by omega)) (by decide)) hZ (hw _ (tk 40 rfl)) (hw _ (tk 11 rfl)) (by decide) (by decide)) q4842a q4842c (g := (mkF m 88 (lt6 p0 p1 p2 p3 p4 v5 b5) [(.int (v5 + (3 : Int32))), (.ref b64)])) rfl (by rw [hml]; rfl) (Steps.refl _) (argsL := [(.int (v5 + (3 : Int32)))]) (rest := []) (lenOf pd_1 rfl) rfl (by show 2 * 0 + _ ≤ _; exact Nat.le_of_eq rfl) (hb hby at_88) (fun _ _ => ⟨rfl, e4078, (by decide : 8 + 1 ≤ _), (by show (10 + sl2865) + (0 + (0 + (0 + (0 + 244)))) ≤ 1600; omega)⟩)
              dsimp only [Pt.U, Pt.locs, Pt.cells, Pt.slots] at X4842 l4842 y4842 z4842 st4842 hQ4842
              subst l4842 y4842 z4842
              obtain ⟨b4843, k4844, rv4842, N4842q, O4842, K4842c, Fe4842_0, Fe4842_1, Fe4842_2, Fx4842_0, Fx4842_1, Fx4842_2⟩ := hQ4842
              subst rv4842
              have N4842 := Fr.app N2865 N4842q
              have g_b4843 := Fx4842_0
              have ne_b5_b4843 : b5 ≠ b4843 := Nat.ne_of_lt (Nat.lt_of_lt_of_le c2865_0.lt Fx4842_1)
              have ne_b64_b4843 : b64 ≠ b4843 := Nat.ne_of_lt (Nat.lt_of_lt_of_le c2865_3.lt Fx4842_1)
              have ne_w_2865_b4843 : w_2865 ≠ b4843 := Nat.ne_of_lt (Nat.lt_of_lt_of_le c2865_7.lt Fx4842_1)
              have ne_b67_b4843 : b67 ≠ b4843 := Nat.ne_of_lt (Nat.lt_of_lt_of_le c2865_8.lt Fx4842_1)
              have ne_b68_b4843 : b68 ≠ b4843 := Nat.ne_of_lt (Nat.lt_of_lt_of_le c2865_12.lt Fx4842_1)
              have pre4845 : Cm p e below E0 (T4842.setTop (mkF m 91 (lt6 p0 p1 p2 p3 p4 v5 b5) [])) := fun t kt => by
                refine pre4081 t ?_
                show Sp p e below T4078 (mkF m 88 (lt6 p0 p1 p2 p3 p4 v5 b5) [(.int (v5 + (3 : Int32))), (.ref b64)]) _
                refine st4842.trans ?_
                show Sp p e below T4842 (mkF m 91 (lt6 p0 p1 p2 p3 p4 v5 b5) []) _
                exact kt
              have c4846 := (c2865_0.keep K4842c)
              have c4847 := (c2865_1.keep K4842c (ninS ne_b5_b64 nin0))
              have c4848 := (c2865_2.keep K4842c (ninS ne_b5_b64 nin0))
              have c4849 := (c2865_3.keep K4842c)
              have c4850 := (c2865_8.keep K4842c)
              have c4851 := (c2865_9.keep K4842c (ninS (Ne.symm Fx63_19) nin0))
              have c4852 := (c2865_10.keep K4842c (ninS (Ne.symm Fx63_19) nin0))
              have c4853 := (c2865_11.keep K4842c (ninS (Ne.symm Fx63_19) nin0))
              have c4854 := (c2865_12.keep K4842c (ninS (Ne.symm Fx63_20) nin0))
              exact ⟨_, _, _, b4843, k4844, ((2 : Int32) * n_2865), (((v5 + (3 : Int32)) >>> ((6 : Int32) &&& 31)) + (1 : Int32)), (upF (ovF F_2865 (n_2865).toNatClampNeg (fun _ => (0 : Int64))) (((v5 + (3 : Int32)) >>> ((6 : Int32) &&& 31))).toNatClampNeg (((ovF F_2865 (n_2865).toNatClampNeg (fun _ => (0 : Int64))) (((v5 + (3 : Int32)) >>> ((6 : Int32) &&& 31))).toNatClampNeg) ||| ((1 : Int64) <<< ((v5 + (3 : Int32)) &&& 0x3f).toInt64))), (sl2865 + (0 + (0 + (0 + (0 + 244))))), X4842.more (by decide) (by show (10 + (sl2865 + (0 + (0 + (0 + (0 + 244)))))) ≤ (10 + (sl2865 + (0 + (0 + (0 + (0 + 244)))))); omega), rfl, O4842, N4842, c4846, c4847, c4848, c4849, Fe4842_2, Fe4842_0, Fe4842_1, Fx4842_2, c4850, c4851, c4852, c4853, c4854, ne_b5_b4843, ne_b64_b4843, ne_b67_b4843, ne_b68_b4843, g_b4843, (by omega), (by show _ ∨ _ ∨ _; omega), (own_setG hI_2865 (m := (8 : Int32)) rfl (by decide) hc4076 hB hi_3 hj_3 (by omega) (by omega) (by omega)), pre4845⟩
          · have qhc4110 : ¬ n_2865.toInt = (1 : Int32).toInt := own_ine hc4110
            have hsl : sl2865 ≤ 244 := by omega
            obtain ⟨cq5204, kq5204, q5204a, q5204b, q5204c⟩ := isOf hZ e4078 c2865_3
            obtain ⟨_, _, ⟨T5204, L5204, k5204, n5204⟩, -, X5204, ⟨Lc5204, hQ5204, l5204, y5204, z5204⟩, st5204⟩ := X4078.virtualBack hx (y := Y20) (z := Y20) hown (mvT hZ (hw _ (tk 36 rfl))) (mvT hZ (hw _ (tk 37 rfl))) (notFace_of_selects (args := #[]) (mvT hZ (hw _ (tk 39 rfl)))) (mvT hZ (hw _ (tk 39 rfl))) (mvT hZ (hw _ (tk 38 rfl))) (by decide) (backOf (W := 0) (rm6x2 l Z a0 hw hv [] w_1 w_2 hS0 b64 (v5 + (3 : Int32)) w_2865 u_2865 kk2865 n_2865 F_2865 488 h2865 n0 O2865 g_b64 g_w_2865 c2865_3 c2865_5 c2865_6 c2865_4 c2865_7 ne_b64_w_2865 (own_nl' (by omega)) hc4082 hc4090 (own_nl' (by omega)) (own_ne' (by omega)) (own_nl' (by omega)) (own_nl' (by omega)) (own_lt' (by omega)) (own_nl' (by omega)) (own_nat (by omega) (by omega)) (by decide)) hZ (hw _ (tk 40 rfl)) (hw _ (tk 11 rfl)) (by decide) (by decide)) q5204a q5204c (g := (mkF m 88 (lt6 p0 p1 p2 p3 p4 v5 b5) [(.int (v5 + (3 : Int32))), (.ref b64)])) rfl (by rw [hml]; rfl) (Steps.refl _) (argsL := [(.int (v5 + (3 : Int32)))]) (rest := []) (lenOf pd_1 rfl) rfl (by show 2 * 0 + _ ≤ _; exact Nat.le_of_eq rfl) (hb hby at_88) (fun _ _ => ⟨rfl, e4078, (by decide : 8 + 1 ≤ _), (by show (10 + sl2865) + (0 + (0 + (0 + (0 + 488)))) ≤ 1600; omega)⟩)
            dsimp only [Pt.U, Pt.locs, Pt.cells, Pt.slots] at X5204 l5204 y5204 z5204 st5204 hQ5204
            subst l5204 y5204 z5204
            obtain ⟨b5205, k5206, rv5204, N5204q, O5204, K5204c, Fe5204_0, Fe5204_1, Fe5204_2, Fx5204_0, Fx5204_1, Fx5204_2⟩ := hQ5204
            subst rv5204
            have N5204 := Fr.app N2865 N5204q
            have g_b5205 := Fx5204_0
            have ne_b5_b5205 : b5 ≠ b5205 := Nat.ne_of_lt (Nat.lt_of_lt_of_le c2865_0.lt Fx5204_1)
            have ne_b64_b5205 : b64 ≠ b5205 := Nat.ne_of_lt (Nat.lt_of_lt_of_le c2865_3.lt Fx5204_1)
            have ne_w_2865_b5205 : w_2865 ≠ b5205 := Nat.ne_of_lt (Nat.lt_of_lt_of_le c2865_7.lt Fx5204_1)
            have ne_b67_b5205 : b67 ≠ b5205 := Nat.ne_of_lt (Nat.lt_of_lt_of_le c2865_8.lt Fx5204_1)
            have ne_b68_b5205 : b68 ≠ b5205 := Nat.ne_of_lt (Nat.lt_of_lt_of_le c2865_12.lt Fx5204_1)
            have pre5207 : Cm p e below E0 (T5204.setTop (mkF m 91 (lt6 p0 p1 p2 p3 p4 v5 b5) [])) := fun t kt => by
              refine pre4081 t ?_
              show Sp p e below T4078 (mkF m 88 (lt6 p0 p1 p2 p3 p4 v5 b5) [(.int (v5 + (3 : Int32))), (.ref b64)]) _
              refine st5204.trans ?_
              show Sp p e below T5204 (mkF m 91 (lt6 p0 p1 p2 p3 p4 v5 b5) []) _
              exact kt
            have c5208 := (c2865_0.keep K5204c)
            have c5209 := (c2865_1.keep K5204c (ninS ne_b5_b64 nin0))
            have c5210 := (c2865_2.keep K5204c (ninS ne_b5_b64 nin0))
            have c5211 := (c2865_3.keep K5204c)
            have c5212 := (c2865_8.keep K5204c)
            have c5213 := (c2865_9.keep K5204c (ninS (Ne.symm Fx63_19) nin0))
            have c5214 := (c2865_10.keep K5204c (ninS (Ne.symm Fx63_19) nin0))
            have c5215 := (c2865_11.keep K5204c (ninS (Ne.symm Fx63_19) nin0))
            have c5216 := (c2865_12.keep K5204c (ninS (Ne.symm Fx63_20) nin0))
            exact ⟨_, _, _, b5205, k5206, ((2 : Int32) * n_2865), (((v5 + (3 : Int32)) >>> ((6 : Int32) &&& 31)) + (1 : Int32)), (upF (ovF F_2865 (n_2865).toNatClampNeg (fun _ => (0 : Int64))) (((v5 + (3 : Int32)) >>> ((6 : Int32) &&& 31))).toNatClampNeg (((ovF F_2865 (n_2865).toNatClampNeg (fun _ => (0 : Int64))) (((v5 + (3 : Int32)) >>> ((6 : Int32) &&& 31))).toNatClampNeg) ||| ((1 : Int64) <<< ((v5 + (3 : Int32)) &&& 0x3f).toInt64))), (sl2865 + (0 + (0 + (0 + (0 + 488))))), X5204.more (by decide) (by show (10 + (sl2865 + (0 + (0 + (0 + (0 + 488)))))) ≤ (10 + (sl2865 + (0 + (0 + (0 + (0 + 488)))))); omega), rfl, O5204, N5204, c5208, c5209, c5210, c5211, Fe5204_2, Fe5204_0, Fe5204_1, Fx5204_2, c5212, c5213, c5214, c5215, c5216, ne_b5_b5205, ne_b64_b5205, ne_b67_b5205, ne_b68_b5205, g_b5205, (by omega), (by show _ ∨ _ ∨ _; omega), (own_setG hI_2865 (m := (8 : Int32)) rfl (by decide) hc4076 hB hi_3 hj_3 (by omega) (by omega) (by omega)), pre5207⟩
        · have qhc4090 : ¬ n_2865.toInt < (((v5 + (3 : Int32)) >>> ((6 : Int32) &&& 31)) + (1 : Int32)).toInt := own_inl hc4090
          obtain ⟨cq5242, kq5242, q5242a, q5242b, q5242c⟩ := isOf hZ e4078 c2865_3
          obtain ⟨_, _, ⟨T5242, L5242, k5242, n5242⟩, -, X5242, ⟨Lc5242, hQ5242, l5242, y5242, z5242⟩, st5242⟩ := X4078.virtualBack hx (y := Y20) (z := Y20) hown (mvT hZ (hw _ (tk 36 rfl))) (mvT hZ (hw _ (tk 37 rfl))) (notFace_of_selects (args := #[]) (mvT hZ (hw _ (tk 39 rfl)))) (mvT hZ (hw _ (tk 39 rfl))) (mvT hZ (hw _ (tk 38 rfl))) (by decide) (backOf (W := 0) (rm6x3 l Z a0 hw hv [] w_1 w_2 hS0 b64 (v5 + (3 : Int32)) w_2865 u_2865 kk2865 n_2865 F_2865 h2865 n0 O2865 g_b64 g_w_2865 c2865_3 c2865_5 c2865_6 c2865_4 c2865_7 ne_b64_w_2865 (own_nl' (by omega)) hc4082 hc4090 (own_lt' (by omega)) (own_nl' (by omega))) hZ (hw _ (tk 40 rfl)) (hw _ (tk 11 rfl)) (by decide) (by decide)) q5242a q5242c (g := (mkF m 88 (lt6 p0 p1 p2 p3 p4 v5 b5) [(.int (v5 + (3 : Int32))), (.ref b64)])) rfl (by rw [hml]; rfl) (Steps.refl _) (argsL := [(.int (v5 + (3 : Int32)))]) (rest := []) (lenOf pd_1 rfl) rfl (by show 2 * 0 + _ ≤ _; exact Nat.le_of_eq rfl) (hb hby at_88) (fun _ _ => ⟨rfl, e4078, (by decide : 8 + 0 ≤ _), (by show (10 + sl2865) + 0 ≤ 1600; omega)⟩)
          dsimp only [Pt.U, Pt.locs, Pt.cells, Pt.slots] at X5242 l5242 y5242 z5242 st5242 hQ5242
          subst l5242 y5242 z5242
          obtain ⟨rv5242, N5242q, O5242, K5242c, Fe5242_0, Fe5242_1, Fe5242_2, Fe5242_3⟩ := hQ5242
          subst rv5242
          have N5242 := Fr.app N2865 N5242q
          have pre5243 : Cm p e below E0 (T5242.setTop (mkF m 91 (lt6 p0 p1 p2 p3 p4 v5 b5) [])) := fun t kt => by
            refine pre4081 t ?_
            show Sp p e below T4078 (mkF m 88 (lt6 p0 p1 p2 p3 p4 v5 b5) [(.int (v5 + (3 : Int32))), (.ref b64)]) _
            refine st5242.trans ?_
            show Sp p e below T5242 (mkF m 91 (lt6 p0 p1 p2 p3 p4 v5 b5) []) _
            exact kt
          have c5244 := (c2865_0.keep K5242c)
          have c5245 := (c2865_1.keep K5242c (ninS ne_b5_b64 (ninS ne_b5_w_2865 nin0)))
          have c5246 := (c2865_2.keep K5242c (ninS ne_b5_b64 (ninS ne_b5_w_2865 nin0)))
          have c5247 := (c2865_3.keep K5242c)
          have c5248 := (c2865_8.keep K5242c)
          have c5249 := (c2865_9.keep K5242c (ninS (Ne.symm Fx63_19) (ninS ne_b67_w_2865 nin0)))
          have c5250 := (c2865_10.keep K5242c (ninS (Ne.symm Fx63_19) (ninS ne_b67_w_2865 nin0)))
          have c5251 := (c2865_11.keep K5242c (ninS (Ne.symm Fx63_19) (ninS ne_b67_w_2865 nin0)))
          have c5252 := (c2865_12.keep K5242c (ninS (Ne.symm Fx63_20) (ninS ne_b68_w_2865 nin0)))
          exact ⟨_, _, _, w_2865, kk2865, n_2865, (((v5 + (3 : Int32)) >>> ((6 : Int32) &&& 31)) + (1 : Int32)), (upF F_2865 (((v5 + (3 : Int32)) >>> ((6 : Int32) &&& 31))).toNatClampNeg ((F_2865 (((v5 + (3 : Int32)) >>> ((6 : Int32) &&& 31))).toNatClampNeg) ||| ((1 : Int64) <<< ((v5 + (3 : Int32)) &&& 0x3f).toInt64))), sl2865, X5242.more (by decide) (by show (10 + sl2865) ≤ (10 + sl2865); omega), rfl, O5242, N5242, c5244, c5245, c5246, c5247, Fe5242_2, Fe5242_0, Fe5242_1, Fe5242_3, c5248, c5249, c5250, c5251, c5252, ne_b5_w_2865, ne_b64_w_2865, ne_b67_w_2865, ne_b68_w_2865, g_w_2865, (by omega), (by show _ ∨ _ ∨ _; omega), (own_set hI_2865 (m := (8 : Int32)) rfl (by decide) hc4076 hB hi_3 hj_3 (by omega) (by omega)), pre5243⟩
      · have qhc4082 : ¬ u_2865.toInt < (((v5 + (3 : Int32)) >>> ((6 : Int32) &&& 31)) + (1 : Int32)).toInt := own_inl hc4082
        obtain ⟨cq5269, kq5269, q5269a, q5269b, q5269c⟩ := isOf hZ e4078 c2865_3
        obtain ⟨_, _, ⟨T5269, L5269, k5269, n5269⟩, -, X5269, ⟨Lc5269, hQ5269, l5269, y5269, z5269⟩, st5269⟩ := X4078.virtualBack hx (y := Y20) (z := Y20) hown (mvT hZ (hw _ (tk 36 rfl))) (mvT hZ (hw _ (tk 37 rfl))) (notFace_of_selects (args := #[]) (mvT hZ (hw _ (tk 39 rfl)))) (mvT hZ (hw _ (tk 39 rfl))) (mvT hZ (hw _ (tk 38 rfl))) (by decide) (backOf (W := 0) (rm6x4 l Z a0 hw hv [] w_1 w_2 hS0 b64 (v5 + (3 : Int32)) w_2865 u_2865 kk2865 n_2865 F_2865 h2865 n0 O2865 g_b64 g_w_2865 c2865_3 c2865_5 c2865_6 c2865_4 c2865_7 ne_b64_w_2865 (own_nl' (by omega)) hc4082 (own_lt' (by omega)) (own_nl' (by omega))) hZ (hw _ (tk 40 rfl)) (hw _ (tk 11 rfl)) (by decide) (by decide)) q5269a q5269c (g := (mkF m 88 (lt6 p0 p1 p2 p3 p4 v5 b5) [(.int (v5 + (3 : Int32))), (.ref b64)])) rfl (by rw [hml]; rfl) (Steps.refl _) (argsL := [(.int (v5 + (3 : Int32)))]) (rest := []) (lenOf pd_1 rfl) rfl (by show 2 * 0 + _ ≤ _; exact Nat.le_of_eq rfl) (hb hby at_88) (fun _ _ => ⟨rfl, e4078, (by decide : 8 + 0 ≤ _), (by show (10 + sl2865) + 0 ≤ 1600; omega)⟩)
        dsimp only [Pt.U, Pt.locs, Pt.cells, Pt.slots] at X5269 l5269 y5269 z5269 st5269 hQ5269
        subst l5269 y5269 z5269
        obtain ⟨rv5269, N5269q, O5269, K5269c, Fe5269_0⟩ := hQ5269
        subst rv5269
        have N5269 := Fr.app N2865 N5269q
        have pre5270 : Cm p e below E0 (T5269.setTop (mkF m 91 (lt6 p0 p1 p2 p3 p4 v5 b5) [])) := fun t kt => by
          refine pre4081 t ?_
          show Sp p e below T4078 (mkF m 88 (lt6 p0 p1 p2 p3 p4 v5 b5) [(.int (v5 + (3 : Int32))), (.ref b64)]) _
          refine st5269.trans ?_
          show Sp p e below T5269 (mkF m 91 (lt6 p0 p1 p2 p3 p4 v5 b5) []) _
          exact kt
        have c5271 := (c2865_0.keep K5269c)
        have c5272 := (c2865_1.keep K5269c (ninS ne_b5_w_2865 nin0))
        have c5273 := (c2865_2.keep K5269c (ninS ne_b5_w_2865 nin0))
        have c5274 := (c2865_3.keep K5269c)
        have c5275 := (c2865_4.keep K5269c (ninS ne_b64_w_2865 nin0))
        have c5276 := (c2865_5.keep K5269c (ninS ne_b64_w_2865 nin0))
        have c5277 := (c2865_6.keep K5269c (ninS ne_b64_w_2865 nin0))
        have c5278 := (c2865_8.keep K5269c)
        have c5279 := (c2865_9.keep K5269c (ninS ne_b67_w_2865 nin0))
        have c5280 := (c2865_10.keep K5269c (ninS ne_b67_w_2865 nin0))
        have c5281 := (c2865_11.keep K5269c (ninS ne_b67_w_2865 nin0))
        have c5282 := (c2865_12.keep K5269c (ninS ne_b68_w_2865 nin0))
        exact ⟨_, _, _, w_2865, kk2865, n_2865, u_2865, (upF F_2865 (((v5 + (3 : Int32)) >>> ((6 : Int32) &&& 31))).toNatClampNeg ((F_2865 (((v5 + (3 : Int32)) >>> ((6 : Int32) &&& 31))).toNatClampNeg) ||| ((1 : Int64) <<< ((v5 + (3 : Int32)) &&& 0x3f).toInt64))), sl2865, X5269.more (by decide) (by show (10 + sl2865) ≤ (10 + sl2865); omega), rfl, O5269, N5269, c5271, c5272, c5273, c5274, c5275, c5276, c5277, Fe5269_0, c5278, c5279, c5280, c5281, c5282, ne_b5_w_2865, ne_b64_w_2865, ne_b67_w_2865, ne_b68_w_2865, g_w_2865, (by omega), (by show _ ∨ _ ∨ _; omega), (own_set hI_2865 (m := (8 : Int32)) rfl (by decide) hc4076 hB hi_3 hj_3 (by omega) (by omega)), pre5270⟩
  have h2_4074 : ((2 : Int32) * n_4074).toInt = 2 * (n_4074).toInt := own_dbl _ (by omega) (by omega)
  obtain ⟨T5283, h5283, L5283, w_5283, kk5283, n_5283, u_5283, F_5283, sl5283, X5283, e5283, O5283, N5283, c5283_0, c5283_1, c5283_2, c5283_3, c5283_4, c5283_5, c5283_6, c5283_7, c5283_8, c5283_9, c5283_10, c5283_11, c5283_12, ne_b5_w_5283, ne_b64_w_5283, ne_w_4074_w_5283, ne_b67_w_5283, g_w_5283, hr_5283, hs_5283, hI_5283, pre5283⟩ : ∃ (T5283 : State) (h5283 : Heap) (L5283 : List Loc) (w_5283 : Addr) (kk5283 : ClassId) (n_5283 : Int32) (u_5283 : Int32) (F_5283 : Nat → Int64) (sl5283 : Nat), Stand p l e room_1 s m #[(.int p0), (.int p1), (.int p2), (.int p3), (.int p4)] below meth c T5283 L5283 9 ((10 + sl4074) + sl5283) ∧ T5283.heap = h5283 ∧ Old Z n0 h5283 ∧ Fr n0 L5283 ∧ Exa Z h5283 b5 "com/example/vetd/vetd/Policy$Lines" ∧ Fld Z h5283 b5 "com/example/vetd/vetd/Policy$Lines" "permitted" "Ljava/util/BitSet;" (.ref b64) ∧ Fld Z h5283 b5 "com/example/vetd/vetd/Policy$Lines" "denied" "Ljava/util/BitSet;" (.ref b67) ∧ Exa Z h5283 b64 "java/util/BitSet" ∧ Fld Z h5283 b64 "java/util/BitSet" "wordsInUse" "I" (.int u_4074) ∧ Fld Z h5283 b64 "java/util/BitSet" "sizeIsSticky" "Z" (.int (0 : Int32)) ∧ Fld Z h5283 b64 "java/util/BitSet" "words" "[J" (.ref w_4074) ∧ Arj Z h5283 w_4074 kk4074 n_4074 F_4074 ∧ Exa Z h5283 b67 "java/util/BitSet" ∧ Fld Z h5283 b67 "java/util/BitSet" "wordsInUse" "I" (.int u_5283) ∧ Fld Z h5283 b67 "java/util/BitSet" "sizeIsSticky" "Z" (.int (0 : Int32)) ∧ Fld Z h5283 b67 "java/util/BitSet" "words" "[J" (.ref w_5283) ∧ Arj Z h5283 w_5283 kk5283 n_5283 F_5283 ∧ b5 ≠ w_5283 ∧ b64 ≠ w_5283 ∧ w_4074 ≠ w_5283 ∧ b67 ≠ w_5283 ∧ n0 ≤ w_5283 ∧ (1 ≤ (n_5283).toInt ∧ (n_5283).toInt ≤ 488 ∧ 0 ≤ (u_5283).toInt ∧ (u_5283).toInt ≤ (n_5283).toInt ∧ sl5283 ≤ 732) ∧ StB (v5).toInt n_5283 sl5283 ∧ InvC v5 p1 0 u_5283 F_5283 ∧ Cm p e below E0 (T5283.setTop (mkF m 91 (lt6 p0 p1 p2 p3 p4 v5 b5) [])) := by
    exact ⟨_, _, _, b68, k69, ((((64 : Int32) - (1 : Int32)) >>> ((6 : Int32) &&& 31)) + (1 : Int32)), (0 : Int32), (fun _ => (0 : Int64)), 0, X4074.more (by decide) (by show (10 + sl4074) ≤ ((10 + sl4074) + 0); omega), e4074, O4074, N4074, c4074_0, c4074_1, c4074_2, c4074_3, c4074_4, c4074_5, c4074_6, c4074_7, c4074_8, c4074_9, c4074_10, c4074_11, c4074_12, ne_b5_b68, Fx63_20, (Ne.symm ne_b68_w_4074), Fx63_23, g_b68, ⟨by decide, by decide, by decide, by decide, by decide⟩, Or.inl ⟨by decide, rfl⟩, own_inv0 _ _ _, pre4074⟩
  have h2_5283 : ((2 : Int32) * n_5283).toInt = 2 * (n_5283).toInt := own_dbl _ (by omega) (by omega)
  obtain ⟨T5284, h5284, L5284, w_5284, kk5284, n_5284, u_5284, F_5284, sl5284, X5284, e5284, O5284, N5284, c5284_0, c5284_1, c5284_2, c5284_3, c5284_4, c5284_5, c5284_6, c5284_7, c5284_8, c5284_9, c5284_10, c5284_11, c5284_12, ne_b5_w_5284, ne_b64_w_5284, ne_w_4074_w_5284, ne_b67_w_5284, g_w_5284, hr_5284, hs_5284, hI_5284, pre5284⟩ : ∃ (T5284 : State) (h5284 : Heap) (L5284 : List Loc) (w_5284 : Addr) (kk5284 : ClassId) (n_5284 : Int32) (u_5284 : Int32) (F_5284 : Nat → Int64) (sl5284 : Nat), Stand p l e room_1 s m #[(.int p0), (.int p1), (.int p2), (.int p3), (.int p4)] below meth c T5284 L5284 10 ((10 + sl4074) + sl5284) ∧ T5284.heap = h5284 ∧ Old Z n0 h5284 ∧ Fr n0 L5284 ∧ Exa Z h5284 b5 "com/example/vetd/vetd/Policy$Lines" ∧ Fld Z h5284 b5 "com/example/vetd/vetd/Policy$Lines" "permitted" "Ljava/util/BitSet;" (.ref b64) ∧ Fld Z h5284 b5 "com/example/vetd/vetd/Policy$Lines" "denied" "Ljava/util/BitSet;" (.ref b67) ∧ Exa Z h5284 b64 "java/util/BitSet" ∧ Fld Z h5284 b64 "java/util/BitSet" "wordsInUse" "I" (.int u_4074) ∧ Fld Z h5284 b64 "java/util/BitSet" "sizeIsSticky" "Z" (.int (0 : Int32)) ∧ Fld Z h5284 b64 "java/util/BitSet" "words" "[J" (.ref w_4074) ∧ Arj Z h5284 w_4074 kk4074 n_4074 F_4074 ∧ Exa Z h5284 b67 "java/util/BitSet" ∧ Fld Z h5284 b67 "java/util/BitSet" "wordsInUse" "I" (.int u_5284) ∧ Fld Z h5284 b67 "java/util/BitSet" "sizeIsSticky" "Z" (.int (0 : Int32)) ∧ Fld Z h5284 b67 "java/util/BitSet" "words" "[J" (.ref w_5284) ∧ Arj Z h5284 w_5284 kk5284 n_5284 F_5284 ∧ b5 ≠ w_5284 ∧ b64 ≠ w_5284 ∧ w_4074 ≠ w_5284 ∧ b67 ≠ w_5284 ∧ n0 ≤ w_5284 ∧ (1 ≤ (n_5284).toInt ∧ (n_5284).toInt ≤ 488 ∧ 0 ≤ (u_5284).toInt ∧ (u_5284).toInt ≤ (n_5284).toInt ∧ sl5284 ≤ 732) ∧ StB (v5).toInt n_5284 sl5284 ∧ InvC v5 p1 1 u_5284 F_5284 ∧ Cm p e below E0 (T5284.setTop (mkF m 107 (lt6 p0 p1 p2 p3 p4 v5 b5) [])) := by
    have qst : ((n_5283).toInt = 1 ∧ sl5283 = 0) ∨ ((n_5283).toInt = (v5).toInt / 64 + 1 ∧ 2 ≤ (n_5283).toInt ∧ sl5283 ≤ 244) ∨ (((v5).toInt + 3) / 64 + 1 ≤ (n_5283).toInt ∧ sl5283 ≤ 732) := hs_5283
    have pre5285 : Cm p e below E0 (T5283.setTop (mkF m 94 (lt6 p0 p1 p2 p3 p4 v5 b5) [(.int (p1 &&& (1 : Int32)))])) := fun t kt => by
      refine pre5283 t ?_
      show Sp p e below T5283 (mkF m 91 (lt6 p0 p1 p2 p3 p4 v5 b5) []) _
      refine XS.iloadN X5283.here hx rfl (hb hby at_91) rfl ?_
      refine XS.iconst X5283.here hx rfl (hb hby at_92) ?_
      show Sp p e below T5283 (mkF m 93 (lt6 p0 p1 p2 p3 p4 v5 b5) [(.int (1 : Int32)), (.int p1)]) _
      refine XS.iand X5283.here hx rfl (hb hby at_93) rfl ?_
      show Sp p e below T5283 (mkF m 94 (lt6 p0 p1 p2 p3 p4 v5 b5) [(.int (p1 &&& (1 : Int32)))]) _
      exact kt
    by_cases hc5286 : (p1 &&& (1 : Int32)) = (0 : Int32)
    · have pre5287 : Cm p e below E0 (T5283.setTop (mkF m 107 (lt6 p0 p1 p2 p3 p4 v5 b5) [])) := fun t kt => by
        refine pre5285 t ?_
        show Sp p e below T5283 (mkF m 94 (lt6 p0 p1 p2 p3 p4 v5 b5) [(.int (p1 &&& (1 : Int32)))]) _
        refine XS.ifYes X5283.here hx rfl (pc0 := 94) (pc' := 107) rfl (hb hby at_94) rfl ((if0 _ _).trans (teq hc5286).1) (by decide) (by decide) ?_
        show Sp p e below T5283 (mkF m 107 (lt6 p0 p1 p2 p3 p4 v5 b5) []) _
        exact kt
      exact ⟨_, _, _, w_5283, kk5283, n_5283, u_5283, F_5283, sl5283, X5283.more (by decide) (by show ((10 + sl4074) + sl5283) ≤ ((10 + sl4074) + sl5283); omega), e5283, O5283, N5283, c5283_0, c5283_1, c5283_2, c5283_3, c5283_4, c5283_5, c5283_6, c5283_7, c5283_8, c5283_9, c5283_10, c5283_11, c5283_12, ne_b5_w_5283, ne_b64_w_5283, ne_w_4074_w_5283, ne_b67_w_5283, g_w_5283, (by omega), (by show _ ∨ _ ∨ _; omega), (own_skip hI_5283 (m := (1 : Int32)) rfl (by decide) hc5286), pre5287⟩
    · obtain ⟨T5288, X5288, e5288, st5288⟩ := getF X5283 hx hZ hown (host := "") (Or.inl (hw _ (tk 35 rfl))) Via.refl e5283 c5283_2 (g := (mkF m 99 (lt6 p0 p1 p2 p3 p4 v5 b5) [(.ref b5)])) rfl rfl (hb hby at_99)
      have pre5291 : Cm p e below E0 (T5288.setTop (mkF m 104 (lt6 p0 p1 p2 p3 p4 v5 b5) [(.int v5), (.ref b67)])) := fun t kt => by
        refine pre5285 t ?_
        show Sp p e below T5283 (mkF m 94 (lt6 p0 p1 p2 p3 p4 v5 b5) [(.int (p1 &&& (1 : Int32)))]) _
        refine XS.ifNo X5283.here hx rfl (hb hby at_94) rfl ((if0 _ _).trans (feq hc5286).1) ?_
        show Sp p e below T5283 (mkF m 97 (lt6 p0 p1 p2 p3 p4 v5 b5) []) _
        refine XS.aload X5283.here hx rfl (hb hby at_97) rfl rfl ?_
        show Sp p e below T5283 (mkF m 99 (lt6 p0 p1 p2 p3 p4 v5 b5) [(.ref b5)]) _
        refine st5288 _ ?_
        show Sp p e below T5288 (mkF m 102 (lt6 p0 p1 p2 p3 p4 v5 b5) [(.ref b67)]) _
        refine XS.iload X5288.here hx rfl (hb hby at_102) rfl ?_
        show Sp p e below T5288 (mkF m 104 (lt6 p0 p1 p2 p3 p4 v5 b5) [(.int v5), (.ref b67)]) _
        exact kt
      by_cases hc5292 : u_5283 < ((v5 >>> ((6 : Int32) &&& 31)) + (1 : Int32))
      · have qhc5292 : u_5283.toInt < ((v5 >>> ((6 : Int32) &&& 31)) + (1 : Int32)).toInt := own_ilt hc5292
        by_cases hc5300 : n_5283 < ((v5 >>> ((6 : Int32) &&& 31)) + (1 : Int32))
        · have qhc5300 : n_5283.toInt < ((v5 >>> ((6 : Int32) &&& 31)) + (1 : Int32)).toInt := own_ilt hc5300
          by_cases hc5320 : n_5283 = (1 : Int32)
          · have qhc5320 : n_5283.toInt = (1 : Int32).toInt := congrArg Int32.toInt hc5320
            by_cases hc5340 : ((2 : Int32) * n_5283) < ((v5 >>> ((6 : Int32) &&& 31)) + (1 : Int32))
            · have qhc5340 : ((2 : Int32) * n_5283).toInt < ((v5 >>> ((6 : Int32) &&& 31)) + (1 : Int32)).toInt := own_ilt hc5340
              have hsl : sl5283 = 0 := by omega
              obtain ⟨cq5690, kq5690, q5690a, q5690b, q5690c⟩ := isOf hZ e5288 c5283_8
              obtain ⟨_, _, ⟨T5690, L5690, k5690, n5690⟩, -, X5690, ⟨Lc5690, hQ5690, l5690, y5690, z5690⟩, st5690⟩ := X5288.virtualBack hx (y := Y20) (z := Y20) hown (mvT hZ (hw _ (tk 36 rfl))) (mvT hZ (hw _ (tk 37 rfl))) (notFace_of_selects (args := #[]) (mvT hZ (hw _ (tk 39 rfl)))) (mvT hZ (hw _ (tk 39 rfl))) (mvT hZ (hw _ (tk 38 rfl))) (by decide) (backOf (W := 0) (rm6x1 l Z a0 hw hv [] w_1 w_2 hS0 b67 v5 w_5283 u_5283 kk5283 n_5283 F_5283 244 h5283 n0 O5283 g_b67 g_w_5283 c5283_8 c5283_10 c5283_11 c5283_9 c5283_12 ne_b67_w_5283 (own_nl' (by omega)) hc5292 hc5300 hc5340 (own_ne' (by omega)) (own_nl' (by omega)) (own_nl' (by omega)) (own_lt' (by omega)) (own_nl' (by omega)) (own_nat (by omega) (by omega)) (by decide)) hZ (hw _ (tk 40 rfl)) (hw _ (tk 11 rfl)) (by decide) (by decide)) q5690a q5690c (g := (mkF m 104 (lt6 p0 p1 p2 p3 p4 v5 b5) [(.int v5), (.ref b67)])) rfl (by rw [hml]; rfl) (Steps.refl _) (argsL := [(.int v5)]) (rest := []) (lenOf pd_1 rfl) rfl (by show 2 * 0 + _ ≤ _; exact Nat.le_of_eq rfl) (hb hby at_104) (fun _ _ => ⟨rfl, e5288, (by decide : 9 + 1 ≤ _), (by show ((10 + sl4074) + sl5283) + (0 + (0 + (0 + (0 + 244)))) ≤ 1600; omega)⟩)
              dsimp only [Pt.U, Pt.locs, Pt.cells, Pt.slots] at X5690 l5690 y5690 z5690 st5690 hQ5690
              subst l5690 y5690 z5690
              obtain ⟨b5691, k5692, rv5690, N5690q, O5690, K5690c, Fe5690_0, Fe5690_1, Fe5690_2, Fx5690_0, Fx5690_1, Fx5690_2⟩ := hQ5690
              subst rv5690
              have N5690 := Fr.app N5283 N5690q
              have g_b5691 := Fx5690_0
              have ne_b5_b5691 : b5 ≠ b5691 := Nat.ne_of_lt (Nat.lt_of_lt_of_le c5283_0.lt Fx5690_1)
              have ne_b64_b5691 : b64 ≠ b5691 := Nat.ne_of_lt (Nat.lt_of_lt_of_le c5283_3.lt Fx5690_1)
              have ne_w_4074_b5691 : w_4074 ≠ b5691 := Nat.ne_of_lt (Nat.lt_of_lt_of_le c5283_7.lt Fx5690_1)
              have ne_b67_b5691 : b67 ≠ b5691 := Nat.ne_of_lt (Nat.lt_of_lt_of_le c5283_8.lt Fx5690_1)
              have ne_w_5283_b5691 : w_5283 ≠ b5691 := Nat.ne_of_lt (Nat.lt_of_lt_of_le c5283_12.lt Fx5690_1)
              have pre5693 : Cm p e below E0 (T5690.setTop (mkF m 107 (lt6 p0 p1 p2 p3 p4 v5 b5) [])) := fun t kt => by
                refine pre5291 t ?_
                show Sp p e below T5288 (mkF m 104 (lt6 p0 p1 p2 p3 p4 v5 b5) [(.int v5), (.ref b67)]) _
                refine st5690.trans ?_
                show Sp p e below T5690 (mkF m 107 (lt6 p0 p1 p2 p3 p4 v5 b5) []) _
                exact kt
              have c5694 := (c5283_0.keep K5690c)
              have c5695 := (c5283_1.keep K5690c (ninS ne_b5_b67 nin0))
              have c5696 := (c5283_2.keep K5690c (ninS ne_b5_b67 nin0))
              have c5697 := (c5283_3.keep K5690c)
              have c5698 := (c5283_4.keep K5690c (ninS Fx63_19 nin0))
              have c5699 := (c5283_5.keep K5690c (ninS Fx63_19 nin0))
              have c5700 := (c5283_6.keep K5690c (ninS Fx63_19 nin0))
              have c5701 := (c5283_7.keep K5690c (ninS (Ne.symm ne_b67_w_4074) nin0))
              have c5702 := (c5283_8.keep K5690c)
              exact ⟨_, _, _, b5691, k5692, ((v5 >>> ((6 : Int32) &&& 31)) + (1 : Int32)), ((v5 >>> ((6 : Int32) &&& 31)) + (1 : Int32)), (upF (ovF F_5283 (n_5283).toNatClampNeg (fun _ => (0 : Int64))) ((v5 >>> ((6 : Int32) &&& 31))).toNatClampNeg (((ovF F_5283 (n_5283).toNatClampNeg (fun _ => (0 : Int64))) ((v5 >>> ((6 : Int32) &&& 31))).toNatClampNeg) ||| ((1 : Int64) <<< (v5 &&& 0x3f).toInt64))), (sl5283 + (0 + (0 + (0 + (0 + 244))))), X5690.more (by decide) (by show ((10 + sl4074) + (sl5283 + (0 + (0 + (0 + (0 + 244)))))) ≤ ((10 + sl4074) + (sl5283 + (0 + (0 + (0 + (0 + 244)))))); omega), rfl, O5690, N5690, c5694, c5695, c5696, c5697, c5698, c5699, c5700, c5701, c5702, Fe5690_2, Fe5690_0, Fe5690_1, Fx5690_2, ne_b5_b5691, ne_b64_b5691, ne_w_4074_b5691, ne_b67_b5691, g_b5691, (by omega), (by show _ ∨ _ ∨ _; omega), (own_setG hI_5283 (m := (1 : Int32)) rfl (by decide) hc5286 hB (by simp) hj_0 (by omega) (by omega) (by omega)), pre5693⟩
            · have qhc5340 : ¬ ((2 : Int32) * n_5283).toInt < ((v5 >>> ((6 : Int32) &&& 31)) + (1 : Int32)).toInt := own_inl hc5340
              have hsl : sl5283 = 0 := by omega
              obtain ⟨cq6052, kq6052, q6052a, q6052b, q6052c⟩ := isOf hZ e5288 c5283_8
              obtain ⟨_, _, ⟨T6052, L6052, k6052, n6052⟩, -, X6052, ⟨Lc6052, hQ6052, l6052, y6052, z6052⟩, st6052⟩ := X5288.virtualBack hx (y := Y20) (z := Y20) hown (mvT hZ (hw _ (tk 36 rfl))) (mvT hZ (hw _ (tk 37 rfl))) (notFace_of_selects (args := #[]) (mvT hZ (hw _ (tk 39 rfl)))) (mvT hZ (hw _ (tk 39 rfl))) (mvT hZ (hw _ (tk 38 rfl))) (by decide) (backOf (W := 0) (rm6x2 l Z a0 hw hv [] w_1 w_2 hS0 b67 v5 w_5283 u_5283 kk5283 n_5283 F_5283 244 h5283 n0 O5283 g_b67 g_w_5283 c5283_8 c5283_10 c5283_11 c5283_9 c5283_12 ne_b67_w_5283 (own_nl' (by omega)) hc5292 hc5300 hc5340 (own_ne' (by omega)) (own_nl' (by omega)) (own_nl' (by omega)) (own_lt' (by omega)) (own_nl' (by omega)) (own_nat (by omega) (by omega)) (by decide)) hZ (hw _ (tk 40 rfl)) (hw _ (tk 11 rfl)) (by decide) (by decide)) q6052a q6052c (g := (mkF m 104 (lt6 p0 p1 p2 p3 p4 v5 b5) [(.int v5), (.ref b67)])) rfl (by rw [hml]; rfl) (Steps.refl _) (argsL := [(.int v5)]) (rest := []) (lenOf pd_1 rfl) rfl (by show 2 * 0 + _ ≤ _; exact Nat.le_of_eq rfl) (hb hby at_104) (fun _ _ => ⟨rfl, e5288, (by decide : 9 + 1 ≤ _), (by show ((10 + sl4074) + sl5283) + (0 + (0 + (0 + (0 + 244)))) ≤ 1600; omega)⟩)
              dsimp only [Pt.U, Pt.locs, Pt.cells, Pt.slots] at X6052 l6052 y6052 z6052 st6052 hQ6052
              subst l6052 y6052 z6052
              obtain ⟨b6053, k6054, rv6052, N6052q, O6052, K6052c, Fe6052_0, Fe6052_1, Fe6052_2, Fx6052_0, Fx6052_1, Fx6052_2⟩ := hQ6052
              subst rv6052
              have N6052 := Fr.app N5283 N6052q
              have g_b6053 := Fx6052_0
              have ne_b5_b6053 : b5 ≠ b6053 := Nat.ne_of_lt (Nat.lt_of_lt_of_le c5283_0.lt Fx6052_1)
              have ne_b64_b6053 : b64 ≠ b6053 := Nat.ne_of_lt (Nat.lt_of_lt_of_le c5283_3.lt Fx6052_1)
              have ne_w_4074_b6053 : w_4074 ≠ b6053 := Nat.ne_of_lt (Nat.lt_of_lt_of_le c5283_7.lt Fx6052_1)
              have ne_b67_b6053 : b67 ≠ b6053 := Nat.ne_of_lt (Nat.lt_of_lt_of_le c5283_8.lt Fx6052_1)
              have ne_w_5283_b6053 : w_5283 ≠ b6053 := Nat.ne_of_lt (Nat.lt_of_lt_of_le c5283_12.lt Fx6052_1)
              have pre6055 : Cm p e below E0 (T6052.setTop (mkF m 107 (lt6 p0 p1 p2 p3 p4 v5 b5) [])) := fun t kt => by
                refine pre5291 t ?_
                show Sp p e below T5288 (mkF m 104 (lt6 p0 p1 p2 p3 p4 v5 b5) [(.int v5), (.ref b67)]) _
                refine st6052.trans ?_
                show Sp p e below T6052 (mkF m 107 (lt6 p0 p1 p2 p3 p4 v5 b5) []) _
                exact kt
              have c6056 := (c5283_0.keep K6052c)
              have c6057 := (c5283_1.keep K6052c (ninS ne_b5_b67 nin0))
              have c6058 := (c5283_2.keep K6052c (ninS ne_b5_b67 nin0))
              have c6059 := (c5283_3.keep K6052c)
              have c6060 := (c5283_4.keep K6052c (ninS Fx63_19 nin0))
              have c6061 := (c5283_5.keep K6052c (ninS Fx63_19 nin0))
              have c6062 := (c5283_6.keep K6052c (ninS Fx63_19 nin0))
              have c6063 := (c5283_7.keep K6052c (ninS (Ne.symm ne_b67_w_4074) nin0))
              have c6064 := (c5283_8.keep K6052c)
              exact ⟨_, _, _, b6053, k6054, ((2 : Int32) * n_5283), ((v5 >>> ((6 : Int32) &&& 31)) + (1 : Int32)), (upF (ovF F_5283 (n_5283).toNatClampNeg (fun _ => (0 : Int64))) ((v5 >>> ((6 : Int32) &&& 31))).toNatClampNeg (((ovF F_5283 (n_5283).toNatClampNeg (fun _ => (0 : Int64))) ((v5 >>> ((6 : Int32) &&& 31))).toNatClampNeg) ||| ((1 : Int64) <<< (v5 &&& 0x3f).toInt64))), (sl5283 + (0 + (0 + (0 + (0 + 244))))), X6052.more (by decide) (by show ((10 + sl4074) + (sl5283 + (0 + (0 + (0 + (0 + 244)))))) ≤ ((10 + sl4074) + (sl5283 + (0 + (0 + (0 + (0 + 244)))))); omega), rfl, O6052, N6052, c6056, c6057, c6058, c6059, c6060, c6061, c6062, c6063, c6064, Fe6052_2, Fe6052_0, Fe6052_1, Fx6052_2, ne_b5_b6053, ne_b64_b6053, ne_w_4074_b6053, ne_b67_b6053, g_b6053, (by omega), (by show _ ∨ _ ∨ _; omega), (own_setG hI_5283 (m := (1 : Int32)) rfl (by decide) hc5286 hB (by simp) hj_0 (by omega) (by omega) (by omega)), pre6055⟩
          · have qhc5320 : ¬ n_5283.toInt = (1 : Int32).toInt := own_ine hc5320
            have hsl : sl5283 ≤ 244 := by omega
            obtain ⟨cq6414, kq6414, q6414a, q6414b, q6414c⟩ := isOf hZ e5288 c5283_8
            obtain ⟨_, _, ⟨T6414, L6414, k6414, n6414⟩, -, X6414, ⟨Lc6414, hQ6414, l6414, y6414, z6414⟩, st6414⟩ := X5288.virtualBack hx (y := Y20) (z := Y20) hown (mvT hZ (hw _ (tk 36 rfl))) (mvT hZ (hw _ (tk 37 rfl))) (notFace_of_selects (args := #[]) (mvT hZ (hw _ (tk 39 rfl)))) (mvT hZ (hw _ (tk 39 rfl))) (mvT hZ (hw _ (tk 38 rfl))) (by decide) (backOf (W := 0) (rm6x2 l Z a0 hw hv [] w_1 w_2 hS0 b67 v5 w_5283 u_5283 kk5283 n_5283 F_5283 488 h5283 n0 O5283 g_b67 g_w_5283 c5283_8 c5283_10 c5283_11 c5283_9 c5283_12 ne_b67_w_5283 (own_nl' (by omega)) hc5292 hc5300 (own_nl' (by omega)) (own_ne' (by omega)) (own_nl' (by omega)) (own_nl' (by omega)) (own_lt' (by omega)) (own_nl' (by omega)) (own_nat (by omega) (by omega)) (by decide)) hZ (hw _ (tk 40 rfl)) (hw _ (tk 11 rfl)) (by decide) (by decide)) q6414a q6414c (g := (mkF m 104 (lt6 p0 p1 p2 p3 p4 v5 b5) [(.int v5), (.ref b67)])) rfl (by rw [hml]; rfl) (Steps.refl _) (argsL := [(.int v5)]) (rest := []) (lenOf pd_1 rfl) rfl (by show 2 * 0 + _ ≤ _; exact Nat.le_of_eq rfl) (hb hby at_104) (fun _ _ => ⟨rfl, e5288, (by decide : 9 + 1 ≤ _), (by show ((10 + sl4074) + sl5283) + (0 + (0 + (0 + (0 + 488)))) ≤ 1600; omega)⟩)
            dsimp only [Pt.U, Pt.locs, Pt.cells, Pt.slots] at X6414 l6414 y6414 z6414 st6414 hQ6414
            subst l6414 y6414 z6414
            obtain ⟨b6415, k6416, rv6414, N6414q, O6414, K6414c, Fe6414_0, Fe6414_1, Fe6414_2, Fx6414_0, Fx6414_1, Fx6414_2⟩ := hQ6414
            subst rv6414
            have N6414 := Fr.app N5283 N6414q
            have g_b6415 := Fx6414_0
            have ne_b5_b6415 : b5 ≠ b6415 := Nat.ne_of_lt (Nat.lt_of_lt_of_le c5283_0.lt Fx6414_1)
            have ne_b64_b6415 : b64 ≠ b6415 := Nat.ne_of_lt (Nat.lt_of_lt_of_le c5283_3.lt Fx6414_1)
            have ne_w_4074_b6415 : w_4074 ≠ b6415 := Nat.ne_of_lt (Nat.lt_of_lt_of_le c5283_7.lt Fx6414_1)
            have ne_b67_b6415 : b67 ≠ b6415 := Nat.ne_of_lt (Nat.lt_of_lt_of_le c5283_8.lt Fx6414_1)
            have ne_w_5283_b6415 : w_5283 ≠ b6415 := Nat.ne_of_lt (Nat.lt_of_lt_of_le c5283_12.lt Fx6414_1)
            have pre6417 : Cm p e below E0 (T6414.setTop (mkF m 107 (lt6 p0 p1 p2 p3 p4 v5 b5) [])) := fun t kt => by
              refine pre5291 t ?_
              show Sp p e below T5288 (mkF m 104 (lt6 p0 p1 p2 p3 p4 v5 b5) [(.int v5), (.ref b67)]) _
              refine st6414.trans ?_
              show Sp p e below T6414 (mkF m 107 (lt6 p0 p1 p2 p3 p4 v5 b5) []) _
              exact kt
            have c6418 := (c5283_0.keep K6414c)
            have c6419 := (c5283_1.keep K6414c (ninS ne_b5_b67 nin0))
            have c6420 := (c5283_2.keep K6414c (ninS ne_b5_b67 nin0))
            have c6421 := (c5283_3.keep K6414c)
            have c6422 := (c5283_4.keep K6414c (ninS Fx63_19 nin0))
            have c6423 := (c5283_5.keep K6414c (ninS Fx63_19 nin0))
            have c6424 := (c5283_6.keep K6414c (ninS Fx63_19 nin0))
            have c6425 := (c5283_7.keep K6414c (ninS (Ne.symm ne_b67_w_4074) nin0))
            have c6426 := (c5283_8.keep K6414c)
            exact ⟨_, _, _, b6415, k6416, ((2 : Int32) * n_5283), ((v5 >>> ((6 : Int32) &&& 31)) + (1 : Int32)), (upF (ovF F_5283 (n_5283).toNatClampNeg (fun _ => (0 : Int64))) ((v5 >>> ((6 : Int32) &&& 31))).toNatClampNeg (((ovF F_5283 (n_5283).toNatClampNeg (fun _ => (0 : Int64))) ((v5 >>> ((6 : Int32) &&& 31))).toNatClampNeg) ||| ((1 : Int64) <<< (v5 &&& 0x3f).toInt64))), (sl5283 + (0 + (0 + (0 + (0 + 488))))), X6414.more (by decide) (by show ((10 + sl4074) + (sl5283 + (0 + (0 + (0 + (0 + 488)))))) ≤ ((10 + sl4074) + (sl5283 + (0 + (0 + (0 + (0 + 488)))))); omega), rfl, O6414, N6414, c6418, c6419, c6420, c6421, c6422, c6423, c6424, c6425, c6426, Fe6414_2, Fe6414_0, Fe6414_1, Fx6414_2, ne_b5_b6415, ne_b64_b6415, ne_w_4074_b6415, ne_b67_b6415, g_b6415, (by omega), (by show _ ∨ _ ∨ _; omega), (own_setG hI_5283 (m := (1 : Int32)) rfl (by decide) hc5286 hB (by simp) hj_0 (by omega) (by omega) (by omega)), pre6417⟩
        · have qhc5300 : ¬ n_5283.toInt < ((v5 >>> ((6 : Int32) &&& 31)) + (1 : Int32)).toInt := own_inl hc5300
          obtain ⟨cq6452, kq6452, q6452a, q6452b, q6452c⟩ := isOf hZ e5288 c5283_8
          obtain ⟨_, _, ⟨T6452, L6452, k6452, n6452⟩, -, X6452, ⟨Lc6452, hQ6452, l6452, y6452, z6452⟩, st6452⟩ := X5288.virtualBack hx (y := Y20) (z := Y20) hown (mvT hZ (hw _ (tk 36 rfl))) (mvT hZ (hw _ (tk 37 rfl))) (notFace_of_selects (args := #[]) (mvT hZ (hw _ (tk 39 rfl)))) (mvT hZ (hw _ (tk 39 rfl))) (mvT hZ (hw _ (tk 38 rfl))) (by decide) (backOf (W := 0) (rm6x3 l Z a0 hw hv [] w_1 w_2 hS0 b67 v5 w_5283 u_5283 kk5283 n_5283 F_5283 h5283 n0 O5283 g_b67 g_w_5283 c5283_8 c5283_10 c5283_11 c5283_9 c5283_12 ne_b67_w_5283 (own_nl' (by omega)) hc5292 hc5300 (own_lt' (by omega)) (own_nl' (by omega))) hZ (hw _ (tk 40 rfl)) (hw _ (tk 11 rfl)) (by decide) (by decide)) q6452a q6452c (g := (mkF m 104 (lt6 p0 p1 p2 p3 p4 v5 b5) [(.int v5), (.ref b67)])) rfl (by rw [hml]; rfl) (Steps.refl _) (argsL := [(.int v5)]) (rest := []) (lenOf pd_1 rfl) rfl (by show 2 * 0 + _ ≤ _; exact Nat.le_of_eq rfl) (hb hby at_104) (fun _ _ => ⟨rfl, e5288, (by decide : 9 + 0 ≤ _), (by show ((10 + sl4074) + sl5283) + 0 ≤ 1600; omega)⟩)
          dsimp only [Pt.U, Pt.locs, Pt.cells, Pt.slots] at X6452 l6452 y6452 z6452 st6452 hQ6452
          subst l6452 y6452 z6452
          obtain ⟨rv6452, N6452q, O6452, K6452c, Fe6452_0, Fe6452_1, Fe6452_2, Fe6452_3⟩ := hQ6452
          subst rv6452
          have N6452 := Fr.app N5283 N6452q
          have pre6453 : Cm p e below E0 (T6452.setTop (mkF m 107 (lt6 p0 p1 p2 p3 p4 v5 b5) [])) := fun t kt => by
            refine pre5291 t ?_
            show Sp p e below T5288 (mkF m 104 (lt6 p0 p1 p2 p3 p4 v5 b5) [(.int v5), (.ref b67)]) _
            refine st6452.trans ?_
            show Sp p e below T6452 (mkF m 107 (lt6 p0 p1 p2 p3 p4 v5 b5) []) _
            exact kt
          have c6454 := (c5283_0.keep K6452c)
          have c6455 := (c5283_1.keep K6452c (ninS ne_b5_b67 (ninS ne_b5_w_5283 nin0)))
          have c6456 := (c5283_2.keep K6452c (ninS ne_b5_b67 (ninS ne_b5_w_5283 nin0)))
          have c6457 := (c5283_3.keep K6452c)
          have c6458 := (c5283_4.keep K6452c (ninS Fx63_19 (ninS ne_b64_w_5283 nin0)))
          have c6459 := (c5283_5.keep K6452c (ninS Fx63_19 (ninS ne_b64_w_5283 nin0)))
          have c6460 := (c5283_6.keep K6452c (ninS Fx63_19 (ninS ne_b64_w_5283 nin0)))
          have c6461 := (c5283_7.keep K6452c (ninS (Ne.symm ne_b67_w_4074) (ninS ne_w_4074_w_5283 nin0)))
          have c6462 := (c5283_8.keep K6452c)
          exact ⟨_, _, _, w_5283, kk5283, n_5283, ((v5 >>> ((6 : Int32) &&& 31)) + (1 : Int32)), (upF F_5283 ((v5 >>> ((6 : Int32) &&& 31))).toNatClampNeg ((F_5283 ((v5 >>> ((6 : Int32) &&& 31))).toNatClampNeg) ||| ((1 : Int64) <<< (v5 &&& 0x3f).toInt64))), sl5283, X6452.more (by decide) (by show ((10 + sl4074) + sl5283) ≤ ((10 + sl4074) + sl5283); omega), rfl, O6452, N6452, c6454, c6455, c6456, c6457, c6458, c6459, c6460, c6461, c6462, Fe6452_2, Fe6452_0, Fe6452_1, Fe6452_3, ne_b5_w_5283, ne_b64_w_5283, ne_w_4074_w_5283, ne_b67_w_5283, g_w_5283, (by omega), (by show _ ∨ _ ∨ _; omega), (own_set hI_5283 (m := (1 : Int32)) rfl (by decide) hc5286 hB (by simp) hj_0 (by omega) (by omega)), pre6453⟩
      · have qhc5292 : ¬ u_5283.toInt < ((v5 >>> ((6 : Int32) &&& 31)) + (1 : Int32)).toInt := own_inl hc5292
        obtain ⟨cq6479, kq6479, q6479a, q6479b, q6479c⟩ := isOf hZ e5288 c5283_8
        obtain ⟨_, _, ⟨T6479, L6479, k6479, n6479⟩, -, X6479, ⟨Lc6479, hQ6479, l6479, y6479, z6479⟩, st6479⟩ := X5288.virtualBack hx (y := Y20) (z := Y20) hown (mvT hZ (hw _ (tk 36 rfl))) (mvT hZ (hw _ (tk 37 rfl))) (notFace_of_selects (args := #[]) (mvT hZ (hw _ (tk 39 rfl)))) (mvT hZ (hw _ (tk 39 rfl))) (mvT hZ (hw _ (tk 38 rfl))) (by decide) (backOf (W := 0) (rm6x4 l Z a0 hw hv [] w_1 w_2 hS0 b67 v5 w_5283 u_5283 kk5283 n_5283 F_5283 h5283 n0 O5283 g_b67 g_w_5283 c5283_8 c5283_10 c5283_11 c5283_9 c5283_12 ne_b67_w_5283 (own_nl' (by omega)) hc5292 (own_lt' (by omega)) (own_nl' (by omega))) hZ (hw _ (tk 40 rfl)) (hw _ (tk 11 rfl)) (by decide) (by decide)) q6479a q6479c (g := (mkF m 104 (lt6 p0 p1 p2 p3 p4 v5 b5) [(.int v5), (.ref b67)])) rfl (by rw [hml]; rfl) (Steps.refl _) (argsL := [(.int v5)]) (rest := []) (lenOf pd_1 rfl) rfl (by show 2 * 0 + _ ≤ _; exact Nat.le_of_eq rfl) (hb hby at_104) (fun _ _ => ⟨rfl, e5288, (by decide : 9 + 0 ≤ _), (by show ((10 + sl4074) + sl5283) + 0 ≤ 1600; omega)⟩)
        dsimp only [Pt.U, Pt.locs, Pt.cells, Pt.slots] at X6479 l6479 y6479 z6479 st6479 hQ6479
        subst l6479 y6479 z6479
        obtain ⟨rv6479, N6479q, O6479, K6479c, Fe6479_0⟩ := hQ6479
        subst rv6479
        have N6479 := Fr.app N5283 N6479q
        have pre6480 : Cm p e below E0 (T6479.setTop (mkF m 107 (lt6 p0 p1 p2 p3 p4 v5 b5) [])) := fun t kt => by
          refine pre5291 t ?_
          show Sp p e below T5288 (mkF m 104 (lt6 p0 p1 p2 p3 p4 v5 b5) [(.int v5), (.ref b67)]) _
          refine st6479.trans ?_
          show Sp p e below T6479 (mkF m 107 (lt6 p0 p1 p2 p3 p4 v5 b5) []) _
          exact kt
        have c6481 := (c5283_0.keep K6479c)
        have c6482 := (c5283_1.keep K6479c (ninS ne_b5_w_5283 nin0))
        have c6483 := (c5283_2.keep K6479c (ninS ne_b5_w_5283 nin0))
        have c6484 := (c5283_3.keep K6479c)
        have c6485 := (c5283_4.keep K6479c (ninS ne_b64_w_5283 nin0))
        have c6486 := (c5283_5.keep K6479c (ninS ne_b64_w_5283 nin0))
        have c6487 := (c5283_6.keep K6479c (ninS ne_b64_w_5283 nin0))
        have c6488 := (c5283_7.keep K6479c (ninS ne_w_4074_w_5283 nin0))
        have c6489 := (c5283_8.keep K6479c)
        have c6490 := (c5283_9.keep K6479c (ninS ne_b67_w_5283 nin0))
        have c6491 := (c5283_10.keep K6479c (ninS ne_b67_w_5283 nin0))
        have c6492 := (c5283_11.keep K6479c (ninS ne_b67_w_5283 nin0))
        exact ⟨_, _, _, w_5283, kk5283, n_5283, u_5283, (upF F_5283 ((v5 >>> ((6 : Int32) &&& 31))).toNatClampNeg ((F_5283 ((v5 >>> ((6 : Int32) &&& 31))).toNatClampNeg) ||| ((1 : Int64) <<< (v5 &&& 0x3f).toInt64))), sl5283, X6479.more (by decide) (by show ((10 + sl4074) + sl5283) ≤ ((10 + sl4074) + sl5283); omega), rfl, O6479, N6479, c6481, c6482, c6483, c6484, c6485, c6486, c6487, c6488, c6489, c6490, c6491, c6492, Fe6479_0, ne_b5_w_5283, ne_b64_w_5283, ne_w_4074_w_5283, ne_b67_w_5283, g_w_5283, (by omega), (by show _ ∨ _ ∨ _; omega), (own_set hI_5283 (m := (1 : Int32)) rfl (by decide) hc5286 hB (by simp) hj_0 (by omega) (by omega)), pre6480⟩
  have h2_5284 : ((2 : Int32) * n_5284).toInt = 2 * (n_5284).toInt := own_dbl _ (by omega) (by omega)
  obtain ⟨T6493, h6493, L6493, w_6493, kk6493, n_6493, u_6493, F_6493, sl6493, X6493, e6493, O6493, N6493, c6493_0, c6493_1, c6493_2, c6493_3, c6493_4, c6493_5, c6493_6, c6493_7, c6493_8, c6493_9, c6493_10, c6493_11, c6493_12, ne_b5_w_6493, ne_b64_w_6493, ne_w_4074_w_6493, ne_b67_w_6493, g_w_6493, hr_6493, hs_6493, hI_6493, pre6493⟩ : ∃ (T6493 : State) (h6493 : Heap) (L6493 : List Loc) (w_6493 : Addr) (kk6493 : ClassId) (n_6493 : Int32) (u_6493 : Int32) (F_6493 : Nat → Int64) (sl6493 : Nat), Stand p l e room_1 s m #[(.int p0), (.int p1), (.int p2), (.int p3), (.int p4)] below meth c T6493 L6493 11 ((10 + sl4074) + sl6493) ∧ T6493.heap = h6493 ∧ Old Z n0 h6493 ∧ Fr n0 L6493 ∧ Exa Z h6493 b5 "com/example/vetd/vetd/Policy$Lines" ∧ Fld Z h6493 b5 "com/example/vetd/vetd/Policy$Lines" "permitted" "Ljava/util/BitSet;" (.ref b64) ∧ Fld Z h6493 b5 "com/example/vetd/vetd/Policy$Lines" "denied" "Ljava/util/BitSet;" (.ref b67) ∧ Exa Z h6493 b64 "java/util/BitSet" ∧ Fld Z h6493 b64 "java/util/BitSet" "wordsInUse" "I" (.int u_4074) ∧ Fld Z h6493 b64 "java/util/BitSet" "sizeIsSticky" "Z" (.int (0 : Int32)) ∧ Fld Z h6493 b64 "java/util/BitSet" "words" "[J" (.ref w_4074) ∧ Arj Z h6493 w_4074 kk4074 n_4074 F_4074 ∧ Exa Z h6493 b67 "java/util/BitSet" ∧ Fld Z h6493 b67 "java/util/BitSet" "wordsInUse" "I" (.int u_6493) ∧ Fld Z h6493 b67 "java/util/BitSet" "sizeIsSticky" "Z" (.int (0 : Int32)) ∧ Fld Z h6493 b67 "java/util/BitSet" "words" "[J" (.ref w_6493) ∧ Arj Z h6493 w_6493 kk6493 n_6493 F_6493 ∧ b5 ≠ w_6493 ∧ b64 ≠ w_6493 ∧ w_4074 ≠ w_6493 ∧ b67 ≠ w_6493 ∧ n0 ≤ w_6493 ∧ (1 ≤ (n_6493).toInt ∧ (n_6493).toInt ≤ 488 ∧ 0 ≤ (u_6493).toInt ∧ (u_6493).toInt ≤ (n_6493).toInt ∧ sl6493 ≤ 732) ∧ StB (v5).toInt n_6493 sl6493 ∧ InvC v5 p1 2 u_6493 F_6493 ∧ Cm p e below E0 (T6493.setTop (mkF m 125 (lt6 p0 p1 p2 p3 p4 v5 b5) [])) := by
    have qst : ((n_5284).toInt = 1 ∧ sl5284 = 0) ∨ ((n_5284).toInt = (v5).toInt / 64 + 1 ∧ 2 ≤ (n_5284).toInt ∧ sl5284 ≤ 244) ∨ (((v5).toInt + 3) / 64 + 1 ≤ (n_5284).toInt ∧ sl5284 ≤ 732) := hs_5284
    have pre6494 : Cm p e below E0 (T5284.setTop (mkF m 110 (lt6 p0 p1 p2 p3 p4 v5 b5) [(.int (p1 &&& (2 : Int32)))])) := fun t kt => by
      refine pre5284 t ?_
      show Sp p e below T5284 (mkF m 107 (lt6 p0 p1 p2 p3 p4 v5 b5) []) _
      refine XS.iloadN X5284.here hx rfl (hb hby at_107) rfl ?_
      refine XS.iconst X5284.here hx rfl (hb hby at_108) ?_
      show Sp p e below T5284 (mkF m 109 (lt6 p0 p1 p2 p3 p4 v5 b5) [(.int (2 : Int32)), (.int p1)]) _
      refine XS.iand X5284.here hx rfl (hb hby at_109) rfl ?_
      show Sp p e below T5284 (mkF m 110 (lt6 p0 p1 p2 p3 p4 v5 b5) [(.int (p1 &&& (2 : Int32)))]) _
      exact kt
    by_cases hc6495 : (p1 &&& (2 : Int32)) = (0 : Int32)
    · have pre6496 : Cm p e below E0 (T5284.setTop (mkF m 125 (lt6 p0 p1 p2 p3 p4 v5 b5) [])) := fun t kt => by
        refine pre6494 t ?_
        show Sp p e below T5284 (mkF m 110 (lt6 p0 p1 p2 p3 p4 v5 b5) [(.int (p1 &&& (2 : Int32)))]) _
        refine XS.ifYes X5284.here hx rfl (pc0 := 110) (pc' := 125) rfl (hb hby at_110) rfl ((if0 _ _).trans (teq hc6495).1) (by decide) (by decide) ?_
        show Sp p e below T5284 (mkF m 125 (lt6 p0 p1 p2 p3 p4 v5 b5) []) _
        exact kt
      exact ⟨_, _, _, w_5284, kk5284, n_5284, u_5284, F_5284, sl5284, X5284.more (by decide) (by show ((10 + sl4074) + sl5284) ≤ ((10 + sl4074) + sl5284); omega), e5284, O5284, N5284, c5284_0, c5284_1, c5284_2, c5284_3, c5284_4, c5284_5, c5284_6, c5284_7, c5284_8, c5284_9, c5284_10, c5284_11, c5284_12, ne_b5_w_5284, ne_b64_w_5284, ne_w_4074_w_5284, ne_b67_w_5284, g_w_5284, (by omega), (by show _ ∨ _ ∨ _; omega), (own_skip hI_5284 (m := (2 : Int32)) rfl (by decide) hc6495), pre6496⟩
    · obtain ⟨T6497, X6497, e6497, st6497⟩ := getF X5284 hx hZ hown (host := "") (Or.inl (hw _ (tk 35 rfl))) Via.refl e5284 c5284_2 (g := (mkF m 115 (lt6 p0 p1 p2 p3 p4 v5 b5) [(.ref b5)])) rfl rfl (hb hby at_115)
      have pre6500 : Cm p e below E0 (T6497.setTop (mkF m 122 (lt6 p0 p1 p2 p3 p4 v5 b5) [(.int (v5 + (1 : Int32))), (.ref b67)])) := fun t kt => by
        refine pre6494 t ?_
        show Sp p e below T5284 (mkF m 110 (lt6 p0 p1 p2 p3 p4 v5 b5) [(.int (p1 &&& (2 : Int32)))]) _
        refine XS.ifNo X5284.here hx rfl (hb hby at_110) rfl ((if0 _ _).trans (feq hc6495).1) ?_
        show Sp p e below T5284 (mkF m 113 (lt6 p0 p1 p2 p3 p4 v5 b5) []) _
        refine XS.aload X5284.here hx rfl (hb hby at_113) rfl rfl ?_
        show Sp p e below T5284 (mkF m 115 (lt6 p0 p1 p2 p3 p4 v5 b5) [(.ref b5)]) _
        refine st6497 _ ?_
        show Sp p e below T6497 (mkF m 118 (lt6 p0 p1 p2 p3 p4 v5 b5) [(.ref b67)]) _
        refine XS.iload X6497.here hx rfl (hb hby at_118) rfl ?_
        refine XS.iconst X6497.here hx rfl (hb hby at_120) ?_
        show Sp p e below T6497 (mkF m 121 (lt6 p0 p1 p2 p3 p4 v5 b5) [(.int (1 : Int32)), (.int v5), (.ref b67)]) _
        refine XS.iadd X6497.here hx rfl (hb hby at_121) rfl ?_
        show Sp p e below T6497 (mkF m 122 (lt6 p0 p1 p2 p3 p4 v5 b5) [(.int (v5 + (1 : Int32))), (.ref b67)]) _
        exact kt
      by_cases hc6501 : u_5284 < (((v5 + (1 : Int32)) >>> ((6 : Int32) &&& 31)) + (1 : Int32))
      · have qhc6501 : u_5284.toInt < (((v5 + (1 : Int32)) >>> ((6 : Int32) &&& 31)) + (1 : Int32)).toInt := own_ilt hc6501
        by_cases hc6509 : n_5284 < (((v5 + (1 : Int32)) >>> ((6 : Int32) &&& 31)) + (1 : Int32))
        · have qhc6509 : n_5284.toInt < (((v5 + (1 : Int32)) >>> ((6 : Int32) &&& 31)) + (1 : Int32)).toInt := own_ilt hc6509
          by_cases hc6529 : n_5284 = (1 : Int32)
          · have qhc6529 : n_5284.toInt = (1 : Int32).toInt := congrArg Int32.toInt hc6529
            by_cases hc6549 : ((2 : Int32) * n_5284) < (((v5 + (1 : Int32)) >>> ((6 : Int32) &&& 31)) + (1 : Int32))
            · have qhc6549 : ((2 : Int32) * n_5284).toInt < (((v5 + (1 : Int32)) >>> ((6 : Int32) &&& 31)) + (1 : Int32)).toInt := own_ilt hc6549
              have hsl : sl5284 = 0 := by omega
              obtain ⟨cq6899, kq6899, q6899a, q6899b, q6899c⟩ := isOf hZ e6497 c5284_8
              obtain ⟨_, _, ⟨T6899, L6899, k6899, n6899⟩, -, X6899, ⟨Lc6899, hQ6899, l6899, y6899, z6899⟩, st6899⟩ := X6497.virtualBack hx (y := Y20) (z := Y20) hown (mvT hZ (hw _ (tk 36 rfl))) (mvT hZ (hw _ (tk 37 rfl))) (notFace_of_selects (args := #[]) (mvT hZ (hw _ (tk 39 rfl)))) (mvT hZ (hw _ (tk 39 rfl))) (mvT hZ (hw _ (tk 38 rfl))) (by decide) (backOf (W := 0) (rm6x1 l Z a0 hw hv [] w_1 w_2 hS0 b67 (v5 + (1 : Int32)) w_5284 u_5284 kk5284 n_5284 F_5284 244 h5284 n0 O5284 g_b67 g_w_5284 c5284_8 c5284_10 c5284_11 c5284_9 c5284_12 ne_b67_w_5284 (own_nl' (by omega)) hc6501 hc6509 hc6549 (own_ne' (by omega)) (own_nl' (by omega)) (own_nl' (by omega)) (own_lt' (by omega)) (own_nl' (by omega)) (own_nat (by omega) (by omega)) (by decide)) hZ (hw _ (tk 40 rfl)) (hw _ (tk 11 rfl)) (by decide) (by decide)) q6899a q6899c (g := (mkF m 122 (lt6 p0 p1 p2 p3 p4 v5 b5) [(.int (v5 + (1 : Int32))), (.ref b67)])) rfl (by rw [hml]; rfl) (Steps.refl _) (argsL := [(.int (v5 + (1 : Int32)))]) (rest := []) (lenOf pd_1 rfl) rfl (by show 2 * 0 + _ ≤ _; exact Nat.le_of_eq rfl) (hb hby at_122) (fun _ _ => ⟨rfl, e6497, (by decide : 10 + 1 ≤ _), (by show ((10 + sl4074) + sl5284) + (0 + (0 + (0 + (0 + 244)))) ≤ 1600; omega)⟩)
              dsimp only [Pt.U, Pt.locs, Pt.cells, Pt.slots] at X6899 l6899 y6899 z6899 st6899 hQ6899
              subst l6899 y6899 z6899
              obtain ⟨b6900, k6901, rv6899, N6899q, O6899, K6899c, Fe6899_0, Fe6899_1, Fe6899_2, Fx6899_0, Fx6899_1, Fx6899_2⟩ := hQ6899
              subst rv6899
              have N6899 := Fr.app N5284 N6899q
              have g_b6900 := Fx6899_0
              have ne_b5_b6900 : b5 ≠ b6900 := Nat.ne_of_lt (Nat.lt_of_lt_of_le c5284_0.lt Fx6899_1)
              have ne_b64_b6900 : b64 ≠ b6900 := Nat.ne_of_lt (Nat.lt_of_lt_of_le c5284_3.lt Fx6899_1)
              have ne_w_4074_b6900 : w_4074 ≠ b6900 := Nat.ne_of_lt (Nat.lt_of_lt_of_le c5284_7.lt Fx6899_1)
              have ne_b67_b6900 : b67 ≠ b6900 := Nat.ne_of_lt (Nat.lt_of_lt_of_le c5284_8.lt Fx6899_1)
              have ne_w_5284_b6900 : w_5284 ≠ b6900 := Nat.ne_of_lt (Nat.lt_of_lt_of_le c5284_12.lt Fx6899_1)
              have pre6902 : Cm p e below E0 (T6899.setTop (mkF m 125 (lt6 p0 p1 p2 p3 p4 v5 b5) [])) := fun t kt => by
                refine pre6500 t ?_
                show Sp p e below T6497 (mkF m 122 (lt6 p0 p1 p2 p3 p4 v5 b5) [(.int (v5 + (1 : Int32))), (.ref b67)]) _
                refine st6899.trans ?_
                show Sp p e below T6899 (mkF m 125 (lt6 p0 p1 p2 p3 p4 v5 b5) []) _
                exact kt
              have c6903 := (c5284_0.keep K6899c)
              have c6904 := (c5284_1.keep K6899c (ninS ne_b5_b67 nin0))
              have c6905 := (c5284_2.keep K6899c (ninS ne_b5_b67 nin0))
              have c6906 := (c5284_3.keep K6899c)
              have c6907 := (c5284_4.keep K6899c (ninS Fx63_19 nin0))
              have c6908 := (c5284_5.keep K6899c (ninS Fx63_19 nin0))
              have c6909 := (c5284_6.keep K6899c (ninS Fx63_19 nin0))
              have c6910 := (c5284_7.keep K6899c (ninS (Ne.symm ne_b67_w_4074) nin0))
              have c6911 := (c5284_8.keep K6899c)
              exact ⟨_, _, _, b6900, k6901, (((v5 + (1 : Int32)) >>> ((6 : Int32) &&& 31)) + (1 : Int32)), (((v5 + (1 : Int32)) >>> ((6 : Int32) &&& 31)) + (1 : Int32)), (upF (ovF F_5284 (n_5284).toNatClampNeg (fun _ => (0 : Int64))) (((v5 + (1 : Int32)) >>> ((6 : Int32) &&& 31))).toNatClampNeg (((ovF F_5284 (n_5284).toNatClampNeg (fun _ => (0 : Int64))) (((v5 + (1 : Int32)) >>> ((6 : Int32) &&& 31))).toNatClampNeg) ||| ((1 : Int64) <<< ((v5 + (1 : Int32)) &&& 0x3f).toInt64))), (sl5284 + (0 + (0 + (0 + (0 + 244))))), X6899.more (by decide) (by show ((10 + sl4074) + (sl5284 + (0 + (0 + (0 + (0 + 244)))))) ≤ ((10 + sl4074) + (sl5284 + (0 + (0 + (0 + (0 + 244)))))); omega), rfl, O6899, N6899, c6903, c6904, c6905, c6906, c6907, c6908, c6909, c6910, c6911, Fe6899_2, Fe6899_0, Fe6899_1, Fx6899_2, ne_b5_b6900, ne_b64_b6900, ne_w_4074_b6900, ne_b67_b6900, g_b6900, (by omega), (by show _ ∨ _ ∨ _; omega), (own_setG hI_5284 (m := (2 : Int32)) rfl (by decide) hc6495 hB hi_1 hj_1 (by omega) (by omega) (by omega)), pre6902⟩
            · have qhc6549 : ¬ ((2 : Int32) * n_5284).toInt < (((v5 + (1 : Int32)) >>> ((6 : Int32) &&& 31)) + (1 : Int32)).toInt := own_inl hc6549
              have hsl : sl5284 = 0 := by omega
              obtain ⟨cq7261, kq7261, q7261a, q7261b, q7261c⟩ := isOf hZ e6497 c5284_8
              obtain ⟨_, _, ⟨T7261, L7261, k7261, n7261⟩, -, X7261, ⟨Lc7261, hQ7261, l7261, y7261, z7261⟩, st7261⟩ := X6497.virtualBack hx (y := Y20) (z := Y20) hown (mvT hZ (hw _ (tk 36 rfl))) (mvT hZ (hw _ (tk 37 rfl))) (notFace_of_selects (args := #[]) (mvT hZ (hw _ (tk 39 rfl)))) (mvT hZ (hw _ (tk 39 rfl))) (mvT hZ (hw _ (tk 38 rfl))) (by decide) (backOf (W := 0) (rm6x2 l Z a0 hw hv [] w_1 w_2 hS0 b67 (v5 + (1 : Int32)) w_5284 u_5284 kk5284 n_5284 F_5284 244 h5284 n0 O5284 g_b67 g_w_5284 c5284_8 c5284_10 c5284_11 c5284_9 c5284_12 ne_b67_w_5284 (own_nl' (by omega)) hc6501 hc6509 hc6549 (own_ne' (by omega)) (own_nl' (by omega)) (own_nl' (by omega)) (own_lt' (by omega)) (own_nl' (by omega)) (own_nat (by omega) (by omega)) (by decide)) hZ (hw _ (tk 40 rfl)) (hw _ (tk 11 rfl)) (by decide) (by decide)) q7261a q7261c (g := (mkF m 122 (lt6 p0 p1 p2 p3 p4 v5 b5) [(.int (v5 + (1 : Int32))), (.ref b67)])) rfl (by rw [hml]; rfl) (Steps.refl _) (argsL := [(.int (v5 + (1 : Int32)))]) (rest := []) (lenOf pd_1 rfl) rfl (by show 2 * 0 + _ ≤ _; exact Nat.le_of_eq rfl) (hb hby at_122) (fun _ _ => ⟨rfl, e6497, (by decide : 10 + 1 ≤ _), (by show ((10 + sl4074) + sl5284) + (0 + (0 + (0 + (0 + 244)))) ≤ 1600; omega)⟩)
              dsimp only [Pt.U, Pt.locs, Pt.cells, Pt.slots] at X7261 l7261 y7261 z7261 st7261 hQ7261
              subst l7261 y7261 z7261
              obtain ⟨b7262, k7263, rv7261, N7261q, O7261, K7261c, Fe7261_0, Fe7261_1, Fe7261_2, Fx7261_0, Fx7261_1, Fx7261_2⟩ := hQ7261
              subst rv7261
              have N7261 := Fr.app N5284 N7261q
              have g_b7262 := Fx7261_0
              have ne_b5_b7262 : b5 ≠ b7262 := Nat.ne_of_lt (Nat.lt_of_lt_of_le c5284_0.lt Fx7261_1)
              have ne_b64_b7262 : b64 ≠ b7262 := Nat.ne_of_lt (Nat.lt_of_lt_of_le c5284_3.lt Fx7261_1)
              have ne_w_4074_b7262 : w_4074 ≠ b7262 := Nat.ne_of_lt (Nat.lt_of_lt_of_le c5284_7.lt Fx7261_1)
              have ne_b67_b7262 : b67 ≠ b7262 := Nat.ne_of_lt (Nat.lt_of_lt_of_le c5284_8.lt Fx7261_1)
              have ne_w_5284_b7262 : w_5284 ≠ b7262 := Nat.ne_of_lt (Nat.lt_of_lt_of_le c5284_12.lt Fx7261_1)
              have pre7264 : Cm p e below E0 (T7261.setTop (mkF m 125 (lt6 p0 p1 p2 p3 p4 v5 b5) [])) := fun t kt => by
                refine pre6500 t ?_
                show Sp p e below T6497 (mkF m 122 (lt6 p0 p1 p2 p3 p4 v5 b5) [(.int (v5 + (1 : Int32))), (.ref b67)]) _
                refine st7261.trans ?_
                show Sp p e below T7261 (mkF m 125 (lt6 p0 p1 p2 p3 p4 v5 b5) []) _
                exact kt
              have c7265 := (c5284_0.keep K7261c)
              have c7266 := (c5284_1.keep K7261c (ninS ne_b5_b67 nin0))
              have c7267 := (c5284_2.keep K7261c (ninS ne_b5_b67 nin0))
              have c7268 := (c5284_3.keep K7261c)
              have c7269 := (c5284_4.keep K7261c (ninS Fx63_19 nin0))
              have c7270 := (c5284_5.keep K7261c (ninS Fx63_19 nin0))
              have c7271 := (c5284_6.keep K7261c (ninS Fx63_19 nin0))
              have c7272 := (c5284_7.keep K7261c (ninS (Ne.symm ne_b67_w_4074) nin0))
              have c7273 := (c5284_8.keep K7261c)
              exact ⟨_, _, _, b7262, k7263, ((2 : Int32) * n_5284), (((v5 + (1 : Int32)) >>> ((6 : Int32) &&& 31)) + (1 : Int32)), (upF (ovF F_5284 (n_5284).toNatClampNeg (fun _ => (0 : Int64))) (((v5 + (1 : Int32)) >>> ((6 : Int32) &&& 31))).toNatClampNeg (((ovF F_5284 (n_5284).toNatClampNeg (fun _ => (0 : Int64))) (((v5 + (1 : Int32)) >>> ((6 : Int32) &&& 31))).toNatClampNeg) ||| ((1 : Int64) <<< ((v5 + (1 : Int32)) &&& 0x3f).toInt64))), (sl5284 + (0 + (0 + (0 + (0 + 244))))), X7261.more (by decide) (by show ((10 + sl4074) + (sl5284 + (0 + (0 + (0 + (0 + 244)))))) ≤ ((10 + sl4074) + (sl5284 + (0 + (0 + (0 + (0 + 244)))))); omega), rfl, O7261, N7261, c7265, c7266, c7267, c7268, c7269, c7270, c7271, c7272, c7273, Fe7261_2, Fe7261_0, Fe7261_1, Fx7261_2, ne_b5_b7262, ne_b64_b7262, ne_w_4074_b7262, ne_b67_b7262, g_b7262, (by omega), (by show _ ∨ _ ∨ _; omega), (own_setG hI_5284 (m := (2 : Int32)) rfl (by decide) hc6495 hB hi_1 hj_1 (by omega) (by omega) (by omega)), pre7264⟩
          · have qhc6529 : ¬ n_5284.toInt = (1 : Int32).toInt := own_ine hc6529
            have hsl : sl5284 ≤ 244 := by omega
            obtain ⟨cq7623, kq7623, q7623a, q7623b, q7623c⟩ := isOf hZ e6497 c5284_8
            obtain ⟨_, _, ⟨T7623, L7623, k7623, n7623⟩, -, X7623, ⟨Lc7623, hQ7623, l7623, y7623, z7623⟩, st7623⟩ := X6497.virtualBack hx (y := Y20) (z := Y20) hown (mvT hZ (hw _ (tk 36 rfl))) (mvT hZ (hw _ (tk 37 rfl))) (notFace_of_selects (args := #[]) (mvT hZ (hw _ (tk 39 rfl)))) (mvT hZ (hw _ (tk 39 rfl))) (mvT hZ (hw _ (tk 38 rfl))) (by decide) (backOf (W := 0) (rm6x2 l Z a0 hw hv [] w_1 w_2 hS0 b67 (v5 + (1 : Int32)) w_5284 u_5284 kk5284 n_5284 F_5284 488 h5284 n0 O5284 g_b67 g_w_5284 c5284_8 c5284_10 c5284_11 c5284_9 c5284_12 ne_b67_w_5284 (own_nl' (by omega)) hc6501 hc6509 (own_nl' (by omega)) (own_ne' (by omega)) (own_nl' (by omega)) (own_nl' (by omega)) (own_lt' (by omega)) (own_nl' (by omega)) (own_nat (by omega) (by omega)) (by decide)) hZ (hw _ (tk 40 rfl)) (hw _ (tk 11 rfl)) (by decide) (by decide)) q7623a q7623c (g := (mkF m 122 (lt6 p0 p1 p2 p3 p4 v5 b5) [(.int (v5 + (1 : Int32))), (.ref b67)])) rfl (by rw [hml]; rfl) (Steps.refl _) (argsL := [(.int (v5 + (1 : Int32)))]) (rest := []) (lenOf pd_1 rfl) rfl (by show 2 * 0 + _ ≤ _; exact Nat.le_of_eq rfl) (hb hby at_122) (fun _ _ => ⟨rfl, e6497, (by decide : 10 + 1 ≤ _), (by show ((10 + sl4074) + sl5284) + (0 + (0 + (0 + (0 + 488)))) ≤ 1600; omega)⟩)
            dsimp only [Pt.U, Pt.locs, Pt.cells, Pt.slots] at X7623 l7623 y7623 z7623 st7623 hQ7623
            subst l7623 y7623 z7623
            obtain ⟨b7624, k7625, rv7623, N7623q, O7623, K7623c, Fe7623_0, Fe7623_1, Fe7623_2, Fx7623_0, Fx7623_1, Fx7623_2⟩ := hQ7623
            subst rv7623
            have N7623 := Fr.app N5284 N7623q
            have g_b7624 := Fx7623_0
            have ne_b5_b7624 : b5 ≠ b7624 := Nat.ne_of_lt (Nat.lt_of_lt_of_le c5284_0.lt Fx7623_1)
            have ne_b64_b7624 : b64 ≠ b7624 := Nat.ne_of_lt (Nat.lt_of_lt_of_le c5284_3.lt Fx7623_1)
            have ne_w_4074_b7624 : w_4074 ≠ b7624 := Nat.ne_of_lt (Nat.lt_of_lt_of_le c5284_7.lt Fx7623_1)
            have ne_b67_b7624 : b67 ≠ b7624 := Nat.ne_of_lt (Nat.lt_of_lt_of_le c5284_8.lt Fx7623_1)
            have ne_w_5284_b7624 : w_5284 ≠ b7624 := Nat.ne_of_lt (Nat.lt_of_lt_of_le c5284_12.lt Fx7623_1)
            have pre7626 : Cm p e below E0 (T7623.setTop (mkF m 125 (lt6 p0 p1 p2 p3 p4 v5 b5) [])) := fun t kt => by
              refine pre6500 t ?_
              show Sp p e below T6497 (mkF m 122 (lt6 p0 p1 p2 p3 p4 v5 b5) [(.int (v5 + (1 : Int32))), (.ref b67)]) _
              refine st7623.trans ?_
              show Sp p e below T7623 (mkF m 125 (lt6 p0 p1 p2 p3 p4 v5 b5) []) _
              exact kt
            have c7627 := (c5284_0.keep K7623c)
            have c7628 := (c5284_1.keep K7623c (ninS ne_b5_b67 nin0))
            have c7629 := (c5284_2.keep K7623c (ninS ne_b5_b67 nin0))
            have c7630 := (c5284_3.keep K7623c)
            have c7631 := (c5284_4.keep K7623c (ninS Fx63_19 nin0))
            have c7632 := (c5284_5.keep K7623c (ninS Fx63_19 nin0))
            have c7633 := (c5284_6.keep K7623c (ninS Fx63_19 nin0))
            have c7634 := (c5284_7.keep K7623c (ninS (Ne.symm ne_b67_w_4074) nin0))
            have c7635 := (c5284_8.keep K7623c)
            exact ⟨_, _, _, b7624, k7625, ((2 : Int32) * n_5284), (((v5 + (1 : Int32)) >>> ((6 : Int32) &&& 31)) + (1 : Int32)), (upF (ovF F_5284 (n_5284).toNatClampNeg (fun _ => (0 : Int64))) (((v5 + (1 : Int32)) >>> ((6 : Int32) &&& 31))).toNatClampNeg (((ovF F_5284 (n_5284).toNatClampNeg (fun _ => (0 : Int64))) (((v5 + (1 : Int32)) >>> ((6 : Int32) &&& 31))).toNatClampNeg) ||| ((1 : Int64) <<< ((v5 + (1 : Int32)) &&& 0x3f).toInt64))), (sl5284 + (0 + (0 + (0 + (0 + 488))))), X7623.more (by decide) (by show ((10 + sl4074) + (sl5284 + (0 + (0 + (0 + (0 + 488)))))) ≤ ((10 + sl4074) + (sl5284 + (0 + (0 + (0 + (0 + 488)))))); omega), rfl, O7623, N7623, c7627, c7628, c7629, c7630, c7631, c7632, c7633, c7634, c7635, Fe7623_2, Fe7623_0, Fe7623_1, Fx7623_2, ne_b5_b7624, ne_b64_b7624, ne_w_4074_b7624, ne_b67_b7624, g_b7624, (by omega), (by show _ ∨ _ ∨ _; omega), (own_setG hI_5284 (m := (2 : Int32)) rfl (by decide) hc6495 hB hi_1 hj_1 (by omega) (by omega) (by omega)), pre7626⟩
        · have qhc6509 : ¬ n_5284.toInt < (((v5 + (1 : Int32)) >>> ((6 : Int32) &&& 31)) + (1 : Int32)).toInt := own_inl hc6509
          obtain ⟨cq7661, kq7661, q7661a, q7661b, q7661c⟩ := isOf hZ e6497 c5284_8
          obtain ⟨_, _, ⟨T7661, L7661, k7661, n7661⟩, -, X7661, ⟨Lc7661, hQ7661, l7661, y7661, z7661⟩, st7661⟩ := X6497.virtualBack hx (y := Y20) (z := Y20) hown (mvT hZ (hw _ (tk 36 rfl))) (mvT hZ (hw _ (tk 37 rfl))) (notFace_of_selects (args := #[]) (mvT hZ (hw _ (tk 39 rfl)))) (mvT hZ (hw _ (tk 39 rfl))) (mvT hZ (hw _ (tk 38 rfl))) (by decide) (backOf (W := 0) (rm6x3 l Z a0 hw hv [] w_1 w_2 hS0 b67 (v5 + (1 : Int32)) w_5284 u_5284 kk5284 n_5284 F_5284 h5284 n0 O5284 g_b67 g_w_5284 c5284_8 c5284_10 c5284_11 c5284_9 c5284_12 ne_b67_w_5284 (own_nl' (by omega)) hc6501 hc6509 (own_lt' (by omega)) (own_nl' (by omega))) hZ (hw _ (tk 40 rfl)) (hw _ (tk 11 rfl)) (by decide) (by decide)) q7661a q7661c (g := (mkF m 122 (lt6 p0 p1 p2 p3 p4 v5 b5) [(.int (v5 + (1 : Int32))), (.ref b67)])) rfl (by rw [hml]; rfl) (Steps.refl _) (argsL := [(.int (v5 + (1 : Int32)))]) (rest := []) (lenOf pd_1 rfl) rfl (by show 2 * 0 + _ ≤ _; exact Nat.le_of_eq rfl) (hb hby at_122) (fun _ _ => ⟨rfl, e6497, (by decide : 10 + 0 ≤ _), (by show ((10 + sl4074) + sl5284) + 0 ≤ 1600; omega)⟩)
          dsimp only [Pt.U, Pt.locs, Pt.cells, Pt.slots] at X7661 l7661 y7661 z7661 st7661 hQ7661
          subst l7661 y7661 z7661
          obtain ⟨rv7661, N7661q, O7661, K7661c, Fe7661_0, Fe7661_1, Fe7661_2, Fe7661_3⟩ := hQ7661
          subst rv7661
          have N7661 := Fr.app N5284 N7661q
          have pre7662 : Cm p e below E0 (T7661.setTop (mkF m 125 (lt6 p0 p1 p2 p3 p4 v5 b5) [])) := fun t kt => by
            refine pre6500 t ?_
            show Sp p e below T6497 (mkF m 122 (lt6 p0 p1 p2 p3 p4 v5 b5) [(.int (v5 + (1 : Int32))), (.ref b67)]) _
            refine st7661.trans ?_
            show Sp p e below T7661 (mkF m 125 (lt6 p0 p1 p2 p3 p4 v5 b5) []) _
            exact kt
          have c7663 := (c5284_0.keep K7661c)
          have c7664 := (c5284_1.keep K7661c (ninS ne_b5_b67 (ninS ne_b5_w_5284 nin0)))
          have c7665 := (c5284_2.keep K7661c (ninS ne_b5_b67 (ninS ne_b5_w_5284 nin0)))
          have c7666 := (c5284_3.keep K7661c)
          have c7667 := (c5284_4.keep K7661c (ninS Fx63_19 (ninS ne_b64_w_5284 nin0)))
          have c7668 := (c5284_5.keep K7661c (ninS Fx63_19 (ninS ne_b64_w_5284 nin0)))
          have c7669 := (c5284_6.keep K7661c (ninS Fx63_19 (ninS ne_b64_w_5284 nin0)))
          have c7670 := (c5284_7.keep K7661c (ninS (Ne.symm ne_b67_w_4074) (ninS ne_w_4074_w_5284 nin0)))
          have c7671 := (c5284_8.keep K7661c)
          exact ⟨_, _, _, w_5284, kk5284, n_5284, (((v5 + (1 : Int32)) >>> ((6 : Int32) &&& 31)) + (1 : Int32)), (upF F_5284 (((v5 + (1 : Int32)) >>> ((6 : Int32) &&& 31))).toNatClampNeg ((F_5284 (((v5 + (1 : Int32)) >>> ((6 : Int32) &&& 31))).toNatClampNeg) ||| ((1 : Int64) <<< ((v5 + (1 : Int32)) &&& 0x3f).toInt64))), sl5284, X7661.more (by decide) (by show ((10 + sl4074) + sl5284) ≤ ((10 + sl4074) + sl5284); omega), rfl, O7661, N7661, c7663, c7664, c7665, c7666, c7667, c7668, c7669, c7670, c7671, Fe7661_2, Fe7661_0, Fe7661_1, Fe7661_3, ne_b5_w_5284, ne_b64_w_5284, ne_w_4074_w_5284, ne_b67_w_5284, g_w_5284, (by omega), (by show _ ∨ _ ∨ _; omega), (own_set hI_5284 (m := (2 : Int32)) rfl (by decide) hc6495 hB hi_1 hj_1 (by omega) (by omega)), pre7662⟩
      · have qhc6501 : ¬ u_5284.toInt < (((v5 + (1 : Int32)) >>> ((6 : Int32) &&& 31)) + (1 : Int32)).toInt := own_inl hc6501
        obtain ⟨cq7688, kq7688, q7688a, q7688b, q7688c⟩ := isOf hZ e6497 c5284_8
        obtain ⟨_, _, ⟨T7688, L7688, k7688, n7688⟩, -, X7688, ⟨Lc7688, hQ7688, l7688, y7688, z7688⟩, st7688⟩ := X6497.virtualBack hx (y := Y20) (z := Y20) hown (mvT hZ (hw _ (tk 36 rfl))) (mvT hZ (hw _ (tk 37 rfl))) (notFace_of_selects (args := #[]) (mvT hZ (hw _ (tk 39 rfl)))) (mvT hZ (hw _ (tk 39 rfl))) (mvT hZ (hw _ (tk 38 rfl))) (by decide) (backOf (W := 0) (rm6x4 l Z a0 hw hv [] w_1 w_2 hS0 b67 (v5 + (1 : Int32)) w_5284 u_5284 kk5284 n_5284 F_5284 h5284 n0 O5284 g_b67 g_w_5284 c5284_8 c5284_10 c5284_11 c5284_9 c5284_12 ne_b67_w_5284 (own_nl' (by omega)) hc6501 (own_lt' (by omega)) (own_nl' (by omega))) hZ (hw _ (tk 40 rfl)) (hw _ (tk 11 rfl)) (by decide) (by decide)) q7688a q7688c (g := (mkF m 122 (lt6 p0 p1 p2 p3 p4 v5 b5) [(.int (v5 + (1 : Int32))), (.ref b67)])) rfl (by rw [hml]; rfl) (Steps.refl _) (argsL := [(.int (v5 + (1 : Int32)))]) (rest := []) (lenOf pd_1 rfl) rfl (by show 2 * 0 + _ ≤ _; exact Nat.le_of_eq rfl) (hb hby at_122) (fun _ _ => ⟨rfl, e6497, (by decide : 10 + 0 ≤ _), (by show ((10 + sl4074) + sl5284) + 0 ≤ 1600; omega)⟩)
        dsimp only [Pt.U, Pt.locs, Pt.cells, Pt.slots] at X7688 l7688 y7688 z7688 st7688 hQ7688
        subst l7688 y7688 z7688
        obtain ⟨rv7688, N7688q, O7688, K7688c, Fe7688_0⟩ := hQ7688
        subst rv7688
        have N7688 := Fr.app N5284 N7688q
        have pre7689 : Cm p e below E0 (T7688.setTop (mkF m 125 (lt6 p0 p1 p2 p3 p4 v5 b5) [])) := fun t kt => by
          refine pre6500 t ?_
          show Sp p e below T6497 (mkF m 122 (lt6 p0 p1 p2 p3 p4 v5 b5) [(.int (v5 + (1 : Int32))), (.ref b67)]) _
          refine st7688.trans ?_
          show Sp p e below T7688 (mkF m 125 (lt6 p0 p1 p2 p3 p4 v5 b5) []) _
          exact kt
        have c7690 := (c5284_0.keep K7688c)
        have c7691 := (c5284_1.keep K7688c (ninS ne_b5_w_5284 nin0))
        have c7692 := (c5284_2.keep K7688c (ninS ne_b5_w_5284 nin0))
        have c7693 := (c5284_3.keep K7688c)
        have c7694 := (c5284_4.keep K7688c (ninS ne_b64_w_5284 nin0))
        have c7695 := (c5284_5.keep K7688c (ninS ne_b64_w_5284 nin0))
        have c7696 := (c5284_6.keep K7688c (ninS ne_b64_w_5284 nin0))
        have c7697 := (c5284_7.keep K7688c (ninS ne_w_4074_w_5284 nin0))
        have c7698 := (c5284_8.keep K7688c)
        have c7699 := (c5284_9.keep K7688c (ninS ne_b67_w_5284 nin0))
        have c7700 := (c5284_10.keep K7688c (ninS ne_b67_w_5284 nin0))
        have c7701 := (c5284_11.keep K7688c (ninS ne_b67_w_5284 nin0))
        exact ⟨_, _, _, w_5284, kk5284, n_5284, u_5284, (upF F_5284 (((v5 + (1 : Int32)) >>> ((6 : Int32) &&& 31))).toNatClampNeg ((F_5284 (((v5 + (1 : Int32)) >>> ((6 : Int32) &&& 31))).toNatClampNeg) ||| ((1 : Int64) <<< ((v5 + (1 : Int32)) &&& 0x3f).toInt64))), sl5284, X7688.more (by decide) (by show ((10 + sl4074) + sl5284) ≤ ((10 + sl4074) + sl5284); omega), rfl, O7688, N7688, c7690, c7691, c7692, c7693, c7694, c7695, c7696, c7697, c7698, c7699, c7700, c7701, Fe7688_0, ne_b5_w_5284, ne_b64_w_5284, ne_w_4074_w_5284, ne_b67_w_5284, g_w_5284, (by omega), (by show _ ∨ _ ∨ _; omega), (own_set hI_5284 (m := (2 : Int32)) rfl (by decide) hc6495 hB hi_1 hj_1 (by omega) (by omega)), pre7689⟩
  have h2_6493 : ((2 : Int32) * n_6493).toInt = 2 * (n_6493).toInt := own_dbl _ (by omega) (by omega)
  obtain ⟨T7702, h7702, L7702, w_7702, kk7702, n_7702, u_7702, F_7702, sl7702, X7702, e7702, O7702, N7702, c7702_0, c7702_1, c7702_2, c7702_3, c7702_4, c7702_5, c7702_6, c7702_7, c7702_8, c7702_9, c7702_10, c7702_11, c7702_12, ne_b5_w_7702, ne_b64_w_7702, ne_w_4074_w_7702, ne_b67_w_7702, g_w_7702, hr_7702, hs_7702, hI_7702, pre7702⟩ : ∃ (T7702 : State) (h7702 : Heap) (L7702 : List Loc) (w_7702 : Addr) (kk7702 : ClassId) (n_7702 : Int32) (u_7702 : Int32) (F_7702 : Nat → Int64) (sl7702 : Nat), Stand p l e room_1 s m #[(.int p0), (.int p1), (.int p2), (.int p3), (.int p4)] below meth c T7702 L7702 12 ((10 + sl4074) + sl7702) ∧ T7702.heap = h7702 ∧ Old Z n0 h7702 ∧ Fr n0 L7702 ∧ Exa Z h7702 b5 "com/example/vetd/vetd/Policy$Lines" ∧ Fld Z h7702 b5 "com/example/vetd/vetd/Policy$Lines" "permitted" "Ljava/util/BitSet;" (.ref b64) ∧ Fld Z h7702 b5 "com/example/vetd/vetd/Policy$Lines" "denied" "Ljava/util/BitSet;" (.ref b67) ∧ Exa Z h7702 b64 "java/util/BitSet" ∧ Fld Z h7702 b64 "java/util/BitSet" "wordsInUse" "I" (.int u_4074) ∧ Fld Z h7702 b64 "java/util/BitSet" "sizeIsSticky" "Z" (.int (0 : Int32)) ∧ Fld Z h7702 b64 "java/util/BitSet" "words" "[J" (.ref w_4074) ∧ Arj Z h7702 w_4074 kk4074 n_4074 F_4074 ∧ Exa Z h7702 b67 "java/util/BitSet" ∧ Fld Z h7702 b67 "java/util/BitSet" "wordsInUse" "I" (.int u_7702) ∧ Fld Z h7702 b67 "java/util/BitSet" "sizeIsSticky" "Z" (.int (0 : Int32)) ∧ Fld Z h7702 b67 "java/util/BitSet" "words" "[J" (.ref w_7702) ∧ Arj Z h7702 w_7702 kk7702 n_7702 F_7702 ∧ b5 ≠ w_7702 ∧ b64 ≠ w_7702 ∧ w_4074 ≠ w_7702 ∧ b67 ≠ w_7702 ∧ n0 ≤ w_7702 ∧ (1 ≤ (n_7702).toInt ∧ (n_7702).toInt ≤ 488 ∧ 0 ≤ (u_7702).toInt ∧ (u_7702).toInt ≤ (n_7702).toInt ∧ sl7702 ≤ 732) ∧ StB (v5).toInt n_7702 sl7702 ∧ InvC v5 p1 3 u_7702 F_7702 ∧ Cm p e below E0 (T7702.setTop (mkF m 143 (lt6 p0 p1 p2 p3 p4 v5 b5) [])) := by
    have qst : ((n_6493).toInt = 1 ∧ sl6493 = 0) ∨ ((n_6493).toInt = (v5).toInt / 64 + 1 ∧ 2 ≤ (n_6493).toInt ∧ sl6493 ≤ 244) ∨ (((v5).toInt + 3) / 64 + 1 ≤ (n_6493).toInt ∧ sl6493 ≤ 732) := hs_6493
    have pre7703 : Cm p e below E0 (T6493.setTop (mkF m 128 (lt6 p0 p1 p2 p3 p4 v5 b5) [(.int (p1 &&& (4 : Int32)))])) := fun t kt => by
      refine pre6493 t ?_
      show Sp p e below T6493 (mkF m 125 (lt6 p0 p1 p2 p3 p4 v5 b5) []) _
      refine XS.iloadN X6493.here hx rfl (hb hby at_125) rfl ?_
      refine XS.iconst X6493.here hx rfl (hb hby at_126) ?_
      show Sp p e below T6493 (mkF m 127 (lt6 p0 p1 p2 p3 p4 v5 b5) [(.int (4 : Int32)), (.int p1)]) _
      refine XS.iand X6493.here hx rfl (hb hby at_127) rfl ?_
      show Sp p e below T6493 (mkF m 128 (lt6 p0 p1 p2 p3 p4 v5 b5) [(.int (p1 &&& (4 : Int32)))]) _
      exact kt
    by_cases hc7704 : (p1 &&& (4 : Int32)) = (0 : Int32)
    · have pre7705 : Cm p e below E0 (T6493.setTop (mkF m 143 (lt6 p0 p1 p2 p3 p4 v5 b5) [])) := fun t kt => by
        refine pre7703 t ?_
        show Sp p e below T6493 (mkF m 128 (lt6 p0 p1 p2 p3 p4 v5 b5) [(.int (p1 &&& (4 : Int32)))]) _
        refine XS.ifYes X6493.here hx rfl (pc0 := 128) (pc' := 143) rfl (hb hby at_128) rfl ((if0 _ _).trans (teq hc7704).1) (by decide) (by decide) ?_
        show Sp p e below T6493 (mkF m 143 (lt6 p0 p1 p2 p3 p4 v5 b5) []) _
        exact kt
      exact ⟨_, _, _, w_6493, kk6493, n_6493, u_6493, F_6493, sl6493, X6493.more (by decide) (by show ((10 + sl4074) + sl6493) ≤ ((10 + sl4074) + sl6493); omega), e6493, O6493, N6493, c6493_0, c6493_1, c6493_2, c6493_3, c6493_4, c6493_5, c6493_6, c6493_7, c6493_8, c6493_9, c6493_10, c6493_11, c6493_12, ne_b5_w_6493, ne_b64_w_6493, ne_w_4074_w_6493, ne_b67_w_6493, g_w_6493, (by omega), (by show _ ∨ _ ∨ _; omega), (own_skip hI_6493 (m := (4 : Int32)) rfl (by decide) hc7704), pre7705⟩
    · obtain ⟨T7706, X7706, e7706, st7706⟩ := getF X6493 hx hZ hown (host := "") (Or.inl (hw _ (tk 35 rfl))) Via.refl e6493 c6493_2 (g := (mkF m 133 (lt6 p0 p1 p2 p3 p4 v5 b5) [(.ref b5)])) rfl rfl (hb hby at_133)
      have pre7709 : Cm p e below E0 (T7706.setTop (mkF m 140 (lt6 p0 p1 p2 p3 p4 v5 b5) [(.int (v5 + (2 : Int32))), (.ref b67)])) := fun t kt => by
        refine pre7703 t ?_
        show Sp p e below T6493 (mkF m 128 (lt6 p0 p1 p2 p3 p4 v5 b5) [(.int (p1 &&& (4 : Int32)))]) _
        refine XS.ifNo X6493.here hx rfl (hb hby at_128) rfl ((if0 _ _).trans (feq hc7704).1) ?_
        show Sp p e below T6493 (mkF m 131 (lt6 p0 p1 p2 p3 p4 v5 b5) []) _
        refine XS.aload X6493.here hx rfl (hb hby at_131) rfl rfl ?_
        show Sp p e below T6493 (mkF m 133 (lt6 p0 p1 p2 p3 p4 v5 b5) [(.ref b5)]) _
        refine st7706 _ ?_
        show Sp p e below T7706 (mkF m 136 (lt6 p0 p1 p2 p3 p4 v5 b5) [(.ref b67)]) _
        refine XS.iload X7706.here hx rfl (hb hby at_136) rfl ?_
        refine XS.iconst X7706.here hx rfl (hb hby at_138) ?_
        show Sp p e below T7706 (mkF m 139 (lt6 p0 p1 p2 p3 p4 v5 b5) [(.int (2 : Int32)), (.int v5), (.ref b67)]) _
        refine XS.iadd X7706.here hx rfl (hb hby at_139) rfl ?_
        show Sp p e below T7706 (mkF m 140 (lt6 p0 p1 p2 p3 p4 v5 b5) [(.int (v5 + (2 : Int32))), (.ref b67)]) _
        exact kt
      by_cases hc7710 : u_6493 < (((v5 + (2 : Int32)) >>> ((6 : Int32) &&& 31)) + (1 : Int32))
      · have qhc7710 : u_6493.toInt < (((v5 + (2 : Int32)) >>> ((6 : Int32) &&& 31)) + (1 : Int32)).toInt := own_ilt hc7710
        by_cases hc7718 : n_6493 < (((v5 + (2 : Int32)) >>> ((6 : Int32) &&& 31)) + (1 : Int32))
        · have qhc7718 : n_6493.toInt < (((v5 + (2 : Int32)) >>> ((6 : Int32) &&& 31)) + (1 : Int32)).toInt := own_ilt hc7718
          by_cases hc7738 : n_6493 = (1 : Int32)
          · have qhc7738 : n_6493.toInt = (1 : Int32).toInt := congrArg Int32.toInt hc7738
            by_cases hc7758 : ((2 : Int32) * n_6493) < (((v5 + (2 : Int32)) >>> ((6 : Int32) &&& 31)) + (1 : Int32))
            · have qhc7758 : ((2 : Int32) * n_6493).toInt < (((v5 + (2 : Int32)) >>> ((6 : Int32) &&& 31)) + (1 : Int32)).toInt := own_ilt hc7758
              have hsl : sl6493 = 0 := by omega
              obtain ⟨cq8108, kq8108, q8108a, q8108b, q8108c⟩ := isOf hZ e7706 c6493_8
              obtain ⟨_, _, ⟨T8108, L8108, k8108, n8108⟩, -, X8108, ⟨Lc8108, hQ8108, l8108, y8108, z8108⟩, st8108⟩ := X7706.virtualBack hx (y := Y20) (z := Y20) hown (mvT hZ (hw _ (tk 36 rfl))) (mvT hZ (hw _ (tk 37 rfl))) (notFace_of_selects (args := #[]) (mvT hZ (hw _ (tk 39 rfl)))) (mvT hZ (hw _ (tk 39 rfl))) (mvT hZ (hw _ (tk 38 rfl))) (by decide) (backOf (W := 0) (rm6x1 l Z a0 hw hv [] w_1 w_2 hS0 b67 (v5 + (2 : Int32)) w_6493 u_6493 kk6493 n_6493 F_6493 244 h6493 n0 O6493 g_b67 g_w_6493 c6493_8 c6493_10 c6493_11 c6493_9 c6493_12 ne_b67_w_6493 (own_nl' (by omega)) hc7710 hc7718 hc7758 (own_ne' (by omega)) (own_nl' (by omega)) (own_nl' (by omega)) (own_lt' (by omega)) (own_nl' (by omega)) (own_nat (by omega) (by omega)) (by decide)) hZ (hw _ (tk 40 rfl)) (hw _ (tk 11 rfl)) (by decide) (by decide)) q8108a q8108c (g := (mkF m 140 (lt6 p0 p1 p2 p3 p4 v5 b5) [(.int (v5 + (2 : Int32))), (.ref b67)])) rfl (by rw [hml]; rfl) (Steps.refl _) (argsL := [(.int (v5 + (2 : Int32)))]) (rest := []) (lenOf pd_1 rfl) rfl (by show 2 * 0 + _ ≤ _; exact Nat.le_of_eq rfl) (hb hby at_140) (fun _ _ => ⟨rfl, e7706, (by decide : 11 + 1 ≤ _), (by show ((10 + sl4074) + sl6493) + (0 + (0 + (0 + (0 + 244)))) ≤ 1600; omega)⟩)
              dsimp only [Pt.U, Pt.locs, Pt.cells, Pt.slots] at X8108 l8108 y8108 z8108 st8108 hQ8108
              subst l8108 y8108 z8108
              obtain ⟨b8109, k8110, rv8108, N8108q, O8108, K8108c, Fe8108_0, Fe8108_1, Fe8108_2, Fx8108_0, Fx8108_1, Fx8108_2⟩ := hQ8108
              subst rv8108
              have N8108 := Fr.app N6493 N8108q
              have g_b8109 := Fx8108_0
              have ne_b5_b8109 : b5 ≠ b8109 := Nat.ne_of_lt (Nat.lt_of_lt_of_le c6493_0.lt Fx8108_1)
              have ne_b64_b8109 : b64 ≠ b8109 := Nat.ne_of_lt (Nat.lt_of_lt_of_le c6493_3.lt Fx8108_1)
              have ne_w_4074_b8109 : w_4074 ≠ b8109 := Nat.ne_of_lt (Nat.lt_of_lt_of_le c6493_7.lt Fx8108_1)
              have ne_b67_b8109 : b67 ≠ b8109 := Nat.ne_of_lt (Nat.lt_of_lt_of_le c6493_8.lt Fx8108_1)
              have ne_w_6493_b8109 : w_6493 ≠ b8109 := Nat.ne_of_lt (Nat.lt_of_lt_of_le c6493_12.lt Fx8108_1)
              have pre8111 : Cm p e below E0 (T8108.setTop (mkF m 143 (lt6 p0 p1 p2 p3 p4 v5 b5) [])) := fun t kt => by
                refine pre7709 t ?_
                show Sp p e below T7706 (mkF m 140 (lt6 p0 p1 p2 p3 p4 v5 b5) [(.int (v5 + (2 : Int32))), (.ref b67)]) _
                refine st8108.trans ?_
                show Sp p e below T8108 (mkF m 143 (lt6 p0 p1 p2 p3 p4 v5 b5) []) _
                exact kt
              have c8112 := (c6493_0.keep K8108c)
              have c8113 := (c6493_1.keep K8108c (ninS ne_b5_b67 nin0))
              have c8114 := (c6493_2.keep K8108c (ninS ne_b5_b67 nin0))
              have c8115 := (c6493_3.keep K8108c)
              have c8116 := (c6493_4.keep K8108c (ninS Fx63_19 nin0))
              have c8117 := (c6493_5.keep K8108c (ninS Fx63_19 nin0))
              have c8118 := (c6493_6.keep K8108c (ninS Fx63_19 nin0))
              have c8119 := (c6493_7.keep K8108c (ninS (Ne.symm ne_b67_w_4074) nin0))
              have c8120 := (c6493_8.keep K8108c)
              exact ⟨_, _, _, b8109, k8110, (((v5 + (2 : Int32)) >>> ((6 : Int32) &&& 31)) + (1 : Int32)), (((v5 + (2 : Int32)) >>> ((6 : Int32) &&& 31)) + (1 : Int32)), (upF (ovF F_6493 (n_6493).toNatClampNeg (fun _ => (0 : Int64))) (((v5 + (2 : Int32)) >>> ((6 : Int32) &&& 31))).toNatClampNeg (((ovF F_6493 (n_6493).toNatClampNeg (fun _ => (0 : Int64))) (((v5 + (2 : Int32)) >>> ((6 : Int32) &&& 31))).toNatClampNeg) ||| ((1 : Int64) <<< ((v5 + (2 : Int32)) &&& 0x3f).toInt64))), (sl6493 + (0 + (0 + (0 + (0 + 244))))), X8108.more (by decide) (by show ((10 + sl4074) + (sl6493 + (0 + (0 + (0 + (0 + 244)))))) ≤ ((10 + sl4074) + (sl6493 + (0 + (0 + (0 + (0 + 244)))))); omega), rfl, O8108, N8108, c8112, c8113, c8114, c8115, c8116, c8117, c8118, c8119, c8120, Fe8108_2, Fe8108_0, Fe8108_1, Fx8108_2, ne_b5_b8109, ne_b64_b8109, ne_w_4074_b8109, ne_b67_b8109, g_b8109, (by omega), (by show _ ∨ _ ∨ _; omega), (own_setG hI_6493 (m := (4 : Int32)) rfl (by decide) hc7704 hB hi_2 hj_2 (by omega) (by omega) (by omega)), pre8111⟩
            · have qhc7758 : ¬ ((2 : Int32) * n_6493).toInt < (((v5 + (2 : Int32)) >>> ((6 : Int32) &&& 31)) + (1 : Int32)).toInt := own_inl hc7758
              have hsl : sl6493 = 0 := by omega
              obtain ⟨cq8470, kq8470, q8470a, q8470b, q8470c⟩ := isOf hZ e7706 c6493_8
              obtain ⟨_, _, ⟨T8470, L8470, k8470, n8470⟩, -, X8470, ⟨Lc8470, hQ8470, l8470, y8470, z8470⟩, st8470⟩ := X7706.virtualBack hx (y := Y20) (z := Y20) hown (mvT hZ (hw _ (tk 36 rfl))) (mvT hZ (hw _ (tk 37 rfl))) (notFace_of_selects (args := #[]) (mvT hZ (hw _ (tk 39 rfl)))) (mvT hZ (hw _ (tk 39 rfl))) (mvT hZ (hw _ (tk 38 rfl))) (by decide) (backOf (W := 0) (rm6x2 l Z a0 hw hv [] w_1 w_2 hS0 b67 (v5 + (2 : Int32)) w_6493 u_6493 kk6493 n_6493 F_6493 244 h6493 n0 O6493 g_b67 g_w_6493 c6493_8 c6493_10 c6493_11 c6493_9 c6493_12 ne_b67_w_6493 (own_nl' (by omega)) hc7710 hc7718 hc7758 (own_ne' (by omega)) (own_nl' (by omega)) (own_nl' (by omega)) (own_lt' (by omega)) (own_nl' (by omega)) (own_nat (by omega) (by omega)) (by decide)) hZ (hw _ (tk 40 rfl)) (hw _ (tk 11 rfl)) (by decide) (by decide)) q8470a q8470c (g := (mkF m 140 (lt6 p0 p1 p2 p3 p4 v5 b5) [(.int (v5 + (2 : Int32))), (.ref b67)])) rfl (by rw [hml]; rfl) (Steps.refl _) (argsL := [(.int (v5 + (2 : Int32)))]) (rest := []) (lenOf pd_1 rfl) rfl (by show 2 * 0 + _ ≤ _; exact Nat.le_of_eq rfl) (hb hby at_140) (fun _ _ => ⟨rfl, e7706, (by decide : 11 + 1 ≤ _), (by show ((10 + sl4074) + sl6493) + (0 + (0 + (0 + (0 + 244)))) ≤ 1600; omega)⟩)
              dsimp only [Pt.U, Pt.locs, Pt.cells, Pt.slots] at X8470 l8470 y8470 z8470 st8470 hQ8470
              subst l8470 y8470 z8470
              obtain ⟨b8471, k8472, rv8470, N8470q, O8470, K8470c, Fe8470_0, Fe8470_1, Fe8470_2, Fx8470_0, Fx8470_1, Fx8470_2⟩ := hQ8470
              subst rv8470
              have N8470 := Fr.app N6493 N8470q
              have g_b8471 := Fx8470_0
              have ne_b5_b8471 : b5 ≠ b8471 := Nat.ne_of_lt (Nat.lt_of_lt_of_le c6493_0.lt Fx8470_1)
              have ne_b64_b8471 : b64 ≠ b8471 := Nat.ne_of_lt (Nat.lt_of_lt_of_le c6493_3.lt Fx8470_1)
              have ne_w_4074_b8471 : w_4074 ≠ b8471 := Nat.ne_of_lt (Nat.lt_of_lt_of_le c6493_7.lt Fx8470_1)
              have ne_b67_b8471 : b67 ≠ b8471 := Nat.ne_of_lt (Nat.lt_of_lt_of_le c6493_8.lt Fx8470_1)
              have ne_w_6493_b8471 : w_6493 ≠ b8471 := Nat.ne_of_lt (Nat.lt_of_lt_of_le c6493_12.lt Fx8470_1)
              have pre8473 : Cm p e below E0 (T8470.setTop (mkF m 143 (lt6 p0 p1 p2 p3 p4 v5 b5) [])) := fun t kt => by
                refine pre7709 t ?_
                show Sp p e below T7706 (mkF m 140 (lt6 p0 p1 p2 p3 p4 v5 b5) [(.int (v5 + (2 : Int32))), (.ref b67)]) _
                refine st8470.trans ?_
                show Sp p e below T8470 (mkF m 143 (lt6 p0 p1 p2 p3 p4 v5 b5) []) _
                exact kt
              have c8474 := (c6493_0.keep K8470c)
              have c8475 := (c6493_1.keep K8470c (ninS ne_b5_b67 nin0))
              have c8476 := (c6493_2.keep K8470c (ninS ne_b5_b67 nin0))
              have c8477 := (c6493_3.keep K8470c)
              have c8478 := (c6493_4.keep K8470c (ninS Fx63_19 nin0))
              have c8479 := (c6493_5.keep K8470c (ninS Fx63_19 nin0))
              have c8480 := (c6493_6.keep K8470c (ninS Fx63_19 nin0))
              have c8481 := (c6493_7.keep K8470c (ninS (Ne.symm ne_b67_w_4074) nin0))
              have c8482 := (c6493_8.keep K8470c)
              exact ⟨_, _, _, b8471, k8472, ((2 : Int32) * n_6493), (((v5 + (2 : Int32)) >>> ((6 : Int32) &&& 31)) + (1 : Int32)), (upF (ovF F_6493 (n_6493).toNatClampNeg (fun _ => (0 : Int64))) (((v5 + (2 : Int32)) >>> ((6 : Int32) &&& 31))).toNatClampNeg (((ovF F_6493 (n_6493).toNatClampNeg (fun _ => (0 : Int64))) (((v5 + (2 : Int32)) >>> ((6 : Int32) &&& 31))).toNatClampNeg) ||| ((1 : Int64) <<< ((v5 + (2 : Int32)) &&& 0x3f).toInt64))), (sl6493 + (0 + (0 + (0 + (0 + 244))))), X8470.more (by decide) (by show ((10 + sl4074) + (sl6493 + (0 + (0 + (0 + (0 + 244)))))) ≤ ((10 + sl4074) + (sl6493 + (0 + (0 + (0 + (0 + 244)))))); omega), rfl, O8470, N8470, c8474, c8475, c8476, c8477, c8478, c8479, c8480, c8481, c8482, Fe8470_2, Fe8470_0, Fe8470_1, Fx8470_2, ne_b5_b8471, ne_b64_b8471, ne_w_4074_b8471, ne_b67_b8471, g_b8471, (by omega), (by show _ ∨ _ ∨ _; omega), (own_setG hI_6493 (m := (4 : Int32)) rfl (by decide) hc7704 hB hi_2 hj_2 (by omega) (by omega) (by omega)), pre8473⟩
          · have qhc7738 : ¬ n_6493.toInt = (1 : Int32).toInt := own_ine hc7738
            have hsl : sl6493 ≤ 244 := by omega
            obtain ⟨cq8832, kq8832, q8832a, q8832b, q8832c⟩ := isOf hZ e7706 c6493_8
            obtain ⟨_, _, ⟨T8832, L8832, k8832, n8832⟩, -, X8832, ⟨Lc8832, hQ8832, l8832, y8832, z8832⟩, st8832⟩ := X7706.virtualBack hx (y := Y20) (z := Y20) hown (mvT hZ (hw _ (tk 36 rfl))) (mvT hZ (hw _ (tk 37 rfl))) (notFace_of_selects (args := #[]) (mvT hZ (hw _ (tk 39 rfl)))) (mvT hZ (hw _ (tk 39 rfl))) (mvT hZ (hw _ (tk 38 rfl))) (by decide) (backOf (W := 0) (rm6x2 l Z a0 hw hv [] w_1 w_2 hS0 b67 (v5 + (2 : Int32)) w_6493 u_6493 kk6493 n_6493 F_6493 488 h6493 n0 O6493 g_b67 g_w_6493 c6493_8 c6493_10 c6493_11 c6493_9 c6493_12 ne_b67_w_6493 (own_nl' (by omega)) hc7710 hc7718 (own_nl' (by omega)) (own_ne' (by omega)) (own_nl' (by omega)) (own_nl' (by omega)) (own_lt' (by omega)) (own_nl' (by omega)) (own_nat (by omega) (by omega)) (by decide)) hZ (hw _ (tk 40 rfl)) (hw _ (tk 11 rfl)) (by decide) (by decide)) q8832a q8832c (g := (mkF m 140 (lt6 p0 p1 p2 p3 p4 v5 b5) [(.int (v5 + (2 : Int32))), (.ref b67)])) rfl (by rw [hml]; rfl) (Steps.refl _) (argsL := [(.int (v5 + (2 : Int32)))]) (rest := []) (lenOf pd_1 rfl) rfl (by show 2 * 0 + _ ≤ _; exact Nat.le_of_eq rfl) (hb hby at_140) (fun _ _ => ⟨rfl, e7706, (by decide : 11 + 1 ≤ _), (by show ((10 + sl4074) + sl6493) + (0 + (0 + (0 + (0 + 488)))) ≤ 1600; omega)⟩)
            dsimp only [Pt.U, Pt.locs, Pt.cells, Pt.slots] at X8832 l8832 y8832 z8832 st8832 hQ8832
            subst l8832 y8832 z8832
            obtain ⟨b8833, k8834, rv8832, N8832q, O8832, K8832c, Fe8832_0, Fe8832_1, Fe8832_2, Fx8832_0, Fx8832_1, Fx8832_2⟩ := hQ8832
            subst rv8832
            have N8832 := Fr.app N6493 N8832q
            have g_b8833 := Fx8832_0
            have ne_b5_b8833 : b5 ≠ b8833 := Nat.ne_of_lt (Nat.lt_of_lt_of_le c6493_0.lt Fx8832_1)
            have ne_b64_b8833 : b64 ≠ b8833 := Nat.ne_of_lt (Nat.lt_of_lt_of_le c6493_3.lt Fx8832_1)
            have ne_w_4074_b8833 : w_4074 ≠ b8833 := Nat.ne_of_lt (Nat.lt_of_lt_of_le c6493_7.lt Fx8832_1)
            have ne_b67_b8833 : b67 ≠ b8833 := Nat.ne_of_lt (Nat.lt_of_lt_of_le c6493_8.lt Fx8832_1)
            have ne_w_6493_b8833 : w_6493 ≠ b8833 := Nat.ne_of_lt (Nat.lt_of_lt_of_le c6493_12.lt Fx8832_1)
            have pre8835 : Cm p e below E0 (T8832.setTop (mkF m 143 (lt6 p0 p1 p2 p3 p4 v5 b5) [])) := fun t kt => by
              refine pre7709 t ?_
              show Sp p e below T7706 (mkF m 140 (lt6 p0 p1 p2 p3 p4 v5 b5) [(.int (v5 + (2 : Int32))), (.ref b67)]) _
              refine st8832.trans ?_
              show Sp p e below T8832 (mkF m 143 (lt6 p0 p1 p2 p3 p4 v5 b5) []) _
              exact kt
            have c8836 := (c6493_0.keep K8832c)
            have c8837 := (c6493_1.keep K8832c (ninS ne_b5_b67 nin0))
            have c8838 := (c6493_2.keep K8832c (ninS ne_b5_b67 nin0))
            have c8839 := (c6493_3.keep K8832c)
            have c8840 := (c6493_4.keep K8832c (ninS Fx63_19 nin0))
            have c8841 := (c6493_5.keep K8832c (ninS Fx63_19 nin0))
            have c8842 := (c6493_6.keep K8832c (ninS Fx63_19 nin0))
            have c8843 := (c6493_7.keep K8832c (ninS (Ne.symm ne_b67_w_4074) nin0))
            have c8844 := (c6493_8.keep K8832c)
            exact ⟨_, _, _, b8833, k8834, ((2 : Int32) * n_6493), (((v5 + (2 : Int32)) >>> ((6 : Int32) &&& 31)) + (1 : Int32)), (upF (ovF F_6493 (n_6493).toNatClampNeg (fun _ => (0 : Int64))) (((v5 + (2 : Int32)) >>> ((6 : Int32) &&& 31))).toNatClampNeg (((ovF F_6493 (n_6493).toNatClampNeg (fun _ => (0 : Int64))) (((v5 + (2 : Int32)) >>> ((6 : Int32) &&& 31))).toNatClampNeg) ||| ((1 : Int64) <<< ((v5 + (2 : Int32)) &&& 0x3f).toInt64))), (sl6493 + (0 + (0 + (0 + (0 + 488))))), X8832.more (by decide) (by show ((10 + sl4074) + (sl6493 + (0 + (0 + (0 + (0 + 488)))))) ≤ ((10 + sl4074) + (sl6493 + (0 + (0 + (0 + (0 + 488)))))); omega), rfl, O8832, N8832, c8836, c8837, c8838, c8839, c8840, c8841, c8842, c8843, c8844, Fe8832_2, Fe8832_0, Fe8832_1, Fx8832_2, ne_b5_b8833, ne_b64_b8833, ne_w_4074_b8833, ne_b67_b8833, g_b8833, (by omega), (by show _ ∨ _ ∨ _; omega), (own_setG hI_6493 (m := (4 : Int32)) rfl (by decide) hc7704 hB hi_2 hj_2 (by omega) (by omega) (by omega)), pre8835⟩
        · have qhc7718 : ¬ n_6493.toInt < (((v5 + (2 : Int32)) >>> ((6 : Int32) &&& 31)) + (1 : Int32)).toInt := own_inl hc7718
          obtain ⟨cq8870, kq8870, q8870a, q8870b, q8870c⟩ := isOf hZ e7706 c6493_8
          obtain ⟨_, _, ⟨T8870, L8870, k8870, n8870⟩, -, X8870, ⟨Lc8870, hQ8870, l8870, y8870, z8870⟩, st8870⟩ := X7706.virtualBack hx (y := Y20) (z := Y20) hown (mvT hZ (hw _ (tk 36 rfl))) (mvT hZ (hw _ (tk 37 rfl))) (notFace_of_selects (args := #[]) (mvT hZ (hw _ (tk 39 rfl)))) (mvT hZ (hw _ (tk 39 rfl))) (mvT hZ (hw _ (tk 38 rfl))) (by decide) (backOf (W := 0) (rm6x3 l Z a0 hw hv [] w_1 w_2 hS0 b67 (v5 + (2 : Int32)) w_6493 u_6493 kk6493 n_6493 F_6493 h6493 n0 O6493 g_b67 g_w_6493 c6493_8 c6493_10 c6493_11 c6493_9 c6493_12 ne_b67_w_6493 (own_nl' (by omega)) hc7710 hc7718 (own_lt' (by omega)) (own_nl' (by omega))) hZ (hw _ (tk 40 rfl)) (hw _ (tk 11 rfl)) (by decide) (by decide)) q8870a q8870c (g := (mkF m 140 (lt6 p0 p1 p2 p3 p4 v5 b5) [(.int (v5 + (2 : Int32))), (.ref b67)])) rfl (by rw [hml]; rfl) (Steps.refl _) (argsL := [(.int (v5 + (2 : Int32)))]) (rest := []) (lenOf pd_1 rfl) rfl (by show 2 * 0 + _ ≤ _; exact Nat.le_of_eq rfl) (hb hby at_140) (fun _ _ => ⟨rfl, e7706, (by decide : 11 + 0 ≤ _), (by show ((10 + sl4074) + sl6493) + 0 ≤ 1600; omega)⟩)
          dsimp only [Pt.U, Pt.locs, Pt.cells, Pt.slots] at X8870 l8870 y8870 z8870 st8870 hQ8870
          subst l8870 y8870 z8870
          obtain ⟨rv8870, N8870q, O8870, K8870c, Fe8870_0, Fe8870_1, Fe8870_2, Fe8870_3⟩ := hQ8870
          subst rv8870
          have N8870 := Fr.app N6493 N8870q
          have pre8871 : Cm p e below E0 (T8870.setTop (mkF m 143 (lt6 p0 p1 p2 p3 p4 v5 b5) [])) := fun t kt => by
            refine pre7709 t ?_
            show Sp p e below T7706 (mkF m 140 (lt6 p0 p1 p2 p3 p4 v5 b5) [(.int (v5 + (2 : Int32))), (.ref b67)]) _
            refine st8870.trans ?_
            show Sp p e below T8870 (mkF m 143 (lt6 p0 p1 p2 p3 p4 v5 b5) []) _
            exact kt
          have c8872 := (c6493_0.keep K8870c)
          have c8873 := (c6493_1.keep K8870c (ninS ne_b5_b67 (ninS ne_b5_w_6493 nin0)))
          have c8874 := (c6493_2.keep K8870c (ninS ne_b5_b67 (ninS ne_b5_w_6493 nin0)))
          have c8875 := (c6493_3.keep K8870c)
          have c8876 := (c6493_4.keep K8870c (ninS Fx63_19 (ninS ne_b64_w_6493 nin0)))
          have c8877 := (c6493_5.keep K8870c (ninS Fx63_19 (ninS ne_b64_w_6493 nin0)))
          have c8878 := (c6493_6.keep K8870c (ninS Fx63_19 (ninS ne_b64_w_6493 nin0)))
          have c8879 := (c6493_7.keep K8870c (ninS (Ne.symm ne_b67_w_4074) (ninS ne_w_4074_w_6493 nin0)))
          have c8880 := (c6493_8.keep K8870c)
          exact ⟨_, _, _, w_6493, kk6493, n_6493, (((v5 + (2 : Int32)) >>> ((6 : Int32) &&& 31)) + (1 : Int32)), (upF F_6493 (((v5 + (2 : Int32)) >>> ((6 : Int32) &&& 31))).toNatClampNeg ((F_6493 (((v5 + (2 : Int32)) >>> ((6 : Int32) &&& 31))).toNatClampNeg) ||| ((1 : Int64) <<< ((v5 + (2 : Int32)) &&& 0x3f).toInt64))), sl6493, X8870.more (by decide) (by show ((10 + sl4074) + sl6493) ≤ ((10 + sl4074) + sl6493); omega), rfl, O8870, N8870, c8872, c8873, c8874, c8875, c8876, c8877, c8878, c8879, c8880, Fe8870_2, Fe8870_0, Fe8870_1, Fe8870_3, ne_b5_w_6493, ne_b64_w_6493, ne_w_4074_w_6493, ne_b67_w_6493, g_w_6493, (by omega), (by show _ ∨ _ ∨ _; omega), (own_set hI_6493 (m := (4 : Int32)) rfl (by decide) hc7704 hB hi_2 hj_2 (by omega) (by omega)), pre8871⟩
      · have qhc7710 : ¬ u_6493.toInt < (((v5 + (2 : Int32)) >>> ((6 : Int32) &&& 31)) + (1 : Int32)).toInt := own_inl hc7710
        obtain ⟨cq8897, kq8897, q8897a, q8897b, q8897c⟩ := isOf hZ e7706 c6493_8
        obtain ⟨_, _, ⟨T8897, L8897, k8897, n8897⟩, -, X8897, ⟨Lc8897, hQ8897, l8897, y8897, z8897⟩, st8897⟩ := X7706.virtualBack hx (y := Y20) (z := Y20) hown (mvT hZ (hw _ (tk 36 rfl))) (mvT hZ (hw _ (tk 37 rfl))) (notFace_of_selects (args := #[]) (mvT hZ (hw _ (tk 39 rfl)))) (mvT hZ (hw _ (tk 39 rfl))) (mvT hZ (hw _ (tk 38 rfl))) (by decide) (backOf (W := 0) (rm6x4 l Z a0 hw hv [] w_1 w_2 hS0 b67 (v5 + (2 : Int32)) w_6493 u_6493 kk6493 n_6493 F_6493 h6493 n0 O6493 g_b67 g_w_6493 c6493_8 c6493_10 c6493_11 c6493_9 c6493_12 ne_b67_w_6493 (own_nl' (by omega)) hc7710 (own_lt' (by omega)) (own_nl' (by omega))) hZ (hw _ (tk 40 rfl)) (hw _ (tk 11 rfl)) (by decide) (by decide)) q8897a q8897c (g := (mkF m 140 (lt6 p0 p1 p2 p3 p4 v5 b5) [(.int (v5 + (2 : Int32))), (.ref b67)])) rfl (by rw [hml]; rfl) (Steps.refl _) (argsL := [(.int (v5 + (2 : Int32)))]) (rest := []) (lenOf pd_1 rfl) rfl (by show 2 * 0 + _ ≤ _; exact Nat.le_of_eq rfl) (hb hby at_140) (fun _ _ => ⟨rfl, e7706, (by decide : 11 + 0 ≤ _), (by show ((10 + sl4074) + sl6493) + 0 ≤ 1600; omega)⟩)
        dsimp only [Pt.U, Pt.locs, Pt.cells, Pt.slots] at X8897 l8897 y8897 z8897 st8897 hQ8897
        subst l8897 y8897 z8897
        obtain ⟨rv8897, N8897q, O8897, K8897c, Fe8897_0⟩ := hQ8897
        subst rv8897
        have N8897 := Fr.app N6493 N8897q
        have pre8898 : Cm p e below E0 (T8897.setTop (mkF m 143 (lt6 p0 p1 p2 p3 p4 v5 b5) [])) := fun t kt => by
          refine pre7709 t ?_
          show Sp p e below T7706 (mkF m 140 (lt6 p0 p1 p2 p3 p4 v5 b5) [(.int (v5 + (2 : Int32))), (.ref b67)]) _
          refine st8897.trans ?_
          show Sp p e below T8897 (mkF m 143 (lt6 p0 p1 p2 p3 p4 v5 b5) []) _
          exact kt
        have c8899 := (c6493_0.keep K8897c)
        have c8900 := (c6493_1.keep K8897c (ninS ne_b5_w_6493 nin0))
        have c8901 := (c6493_2.keep K8897c (ninS ne_b5_w_6493 nin0))
        have c8902 := (c6493_3.keep K8897c)
        have c8903 := (c6493_4.keep K8897c (ninS ne_b64_w_6493 nin0))
        have c8904 := (c6493_5.keep K8897c (ninS ne_b64_w_6493 nin0))
        have c8905 := (c6493_6.keep K8897c (ninS ne_b64_w_6493 nin0))
        have c8906 := (c6493_7.keep K8897c (ninS ne_w_4074_w_6493 nin0))
        have c8907 := (c6493_8.keep K8897c)
        have c8908 := (c6493_9.keep K8897c (ninS ne_b67_w_6493 nin0))
        have c8909 := (c6493_10.keep K8897c (ninS ne_b67_w_6493 nin0))
        have c8910 := (c6493_11.keep K8897c (ninS ne_b67_w_6493 nin0))
        exact ⟨_, _, _, w_6493, kk6493, n_6493, u_6493, (upF F_6493 (((v5 + (2 : Int32)) >>> ((6 : Int32) &&& 31))).toNatClampNeg ((F_6493 (((v5 + (2 : Int32)) >>> ((6 : Int32) &&& 31))).toNatClampNeg) ||| ((1 : Int64) <<< ((v5 + (2 : Int32)) &&& 0x3f).toInt64))), sl6493, X8897.more (by decide) (by show ((10 + sl4074) + sl6493) ≤ ((10 + sl4074) + sl6493); omega), rfl, O8897, N8897, c8899, c8900, c8901, c8902, c8903, c8904, c8905, c8906, c8907, c8908, c8909, c8910, Fe8897_0, ne_b5_w_6493, ne_b64_w_6493, ne_w_4074_w_6493, ne_b67_w_6493, g_w_6493, (by omega), (by show _ ∨ _ ∨ _; omega), (own_set hI_6493 (m := (4 : Int32)) rfl (by decide) hc7704 hB hi_2 hj_2 (by omega) (by omega)), pre8898⟩
  have h2_7702 : ((2 : Int32) * n_7702).toInt = 2 * (n_7702).toInt := own_dbl _ (by omega) (by omega)
  obtain ⟨T8911, h8911, L8911, w_8911, kk8911, n_8911, u_8911, F_8911, sl8911, X8911, e8911, O8911, N8911, c8911_0, c8911_1, c8911_2, c8911_3, c8911_4, c8911_5, c8911_6, c8911_7, c8911_8, c8911_9, c8911_10, c8911_11, c8911_12, ne_b5_w_8911, ne_b64_w_8911, ne_w_4074_w_8911, ne_b67_w_8911, g_w_8911, hr_8911, hs_8911, hI_8911, pre8911⟩ : ∃ (T8911 : State) (h8911 : Heap) (L8911 : List Loc) (w_8911 : Addr) (kk8911 : ClassId) (n_8911 : Int32) (u_8911 : Int32) (F_8911 : Nat → Int64) (sl8911 : Nat), Stand p l e room_1 s m #[(.int p0), (.int p1), (.int p2), (.int p3), (.int p4)] below meth c T8911 L8911 13 ((10 + sl4074) + sl8911) ∧ T8911.heap = h8911 ∧ Old Z n0 h8911 ∧ Fr n0 L8911 ∧ Exa Z h8911 b5 "com/example/vetd/vetd/Policy$Lines" ∧ Fld Z h8911 b5 "com/example/vetd/vetd/Policy$Lines" "permitted" "Ljava/util/BitSet;" (.ref b64) ∧ Fld Z h8911 b5 "com/example/vetd/vetd/Policy$Lines" "denied" "Ljava/util/BitSet;" (.ref b67) ∧ Exa Z h8911 b64 "java/util/BitSet" ∧ Fld Z h8911 b64 "java/util/BitSet" "wordsInUse" "I" (.int u_4074) ∧ Fld Z h8911 b64 "java/util/BitSet" "sizeIsSticky" "Z" (.int (0 : Int32)) ∧ Fld Z h8911 b64 "java/util/BitSet" "words" "[J" (.ref w_4074) ∧ Arj Z h8911 w_4074 kk4074 n_4074 F_4074 ∧ Exa Z h8911 b67 "java/util/BitSet" ∧ Fld Z h8911 b67 "java/util/BitSet" "wordsInUse" "I" (.int u_8911) ∧ Fld Z h8911 b67 "java/util/BitSet" "sizeIsSticky" "Z" (.int (0 : Int32)) ∧ Fld Z h8911 b67 "java/util/BitSet" "words" "[J" (.ref w_8911) ∧ Arj Z h8911 w_8911 kk8911 n_8911 F_8911 ∧ b5 ≠ w_8911 ∧ b64 ≠ w_8911 ∧ w_4074 ≠ w_8911 ∧ b67 ≠ w_8911 ∧ n0 ≤ w_8911 ∧ (1 ≤ (n_8911).toInt ∧ (n_8911).toInt ≤ 488 ∧ 0 ≤ (u_8911).toInt ∧ (u_8911).toInt ≤ (n_8911).toInt ∧ sl8911 ≤ 732) ∧ StB (v5).toInt n_8911 sl8911 ∧ InvC v5 p1 4 u_8911 F_8911 ∧ Cm p e below E0 (T8911.setTop (mkF m 162 (lt6 p0 p1 p2 p3 p4 v5 b5) [])) := by
    have qst : ((n_7702).toInt = 1 ∧ sl7702 = 0) ∨ ((n_7702).toInt = (v5).toInt / 64 + 1 ∧ 2 ≤ (n_7702).toInt ∧ sl7702 ≤ 244) ∨ (((v5).toInt + 3) / 64 + 1 ≤ (n_7702).toInt ∧ sl7702 ≤ 732) := hs_7702
    have pre8912 : Cm p e below E0 (T7702.setTop (mkF m 147 (lt6 p0 p1 p2 p3 p4 v5 b5) [(.int (p1 &&& (8 : Int32)))])) := fun t kt => by
      refine pre7702 t ?_
      show Sp p e below T7702 (mkF m 143 (lt6 p0 p1 p2 p3 p4 v5 b5) []) _
      refine XS.iloadN X7702.here hx rfl (hb hby at_143) rfl ?_
      refine XS.bipush X7702.here hx rfl (hb hby at_144) ?_
      show Sp p e below T7702 (mkF m 146 (lt6 p0 p1 p2 p3 p4 v5 b5) [(.int (8 : Int32)), (.int p1)]) _
      refine XS.iand X7702.here hx rfl (hb hby at_146) rfl ?_
      show Sp p e below T7702 (mkF m 147 (lt6 p0 p1 p2 p3 p4 v5 b5) [(.int (p1 &&& (8 : Int32)))]) _
      exact kt
    by_cases hc8913 : (p1 &&& (8 : Int32)) = (0 : Int32)
    · have pre8914 : Cm p e below E0 (T7702.setTop (mkF m 162 (lt6 p0 p1 p2 p3 p4 v5 b5) [])) := fun t kt => by
        refine pre8912 t ?_
        show Sp p e below T7702 (mkF m 147 (lt6 p0 p1 p2 p3 p4 v5 b5) [(.int (p1 &&& (8 : Int32)))]) _
        refine XS.ifYes X7702.here hx rfl (pc0 := 147) (pc' := 162) rfl (hb hby at_147) rfl ((if0 _ _).trans (teq hc8913).1) (by decide) (by decide) ?_
        show Sp p e below T7702 (mkF m 162 (lt6 p0 p1 p2 p3 p4 v5 b5) []) _
        exact kt
      exact ⟨_, _, _, w_7702, kk7702, n_7702, u_7702, F_7702, sl7702, X7702.more (by decide) (by show ((10 + sl4074) + sl7702) ≤ ((10 + sl4074) + sl7702); omega), e7702, O7702, N7702, c7702_0, c7702_1, c7702_2, c7702_3, c7702_4, c7702_5, c7702_6, c7702_7, c7702_8, c7702_9, c7702_10, c7702_11, c7702_12, ne_b5_w_7702, ne_b64_w_7702, ne_w_4074_w_7702, ne_b67_w_7702, g_w_7702, (by omega), (by show _ ∨ _ ∨ _; omega), (own_skip hI_7702 (m := (8 : Int32)) rfl (by decide) hc8913), pre8914⟩
    · obtain ⟨T8915, X8915, e8915, st8915⟩ := getF X7702 hx hZ hown (host := "") (Or.inl (hw _ (tk 35 rfl))) Via.refl e7702 c7702_2 (g := (mkF m 152 (lt6 p0 p1 p2 p3 p4 v5 b5) [(.ref b5)])) rfl rfl (hb hby at_152)
      have pre8918 : Cm p e below E0 (T8915.setTop (mkF m 159 (lt6 p0 p1 p2 p3 p4 v5 b5) [(.int (v5 + (3 : Int32))), (.ref b67)])) := fun t kt => by
        refine pre8912 t ?_
        show Sp p e below T7702 (mkF m 147 (lt6 p0 p1 p2 p3 p4 v5 b5) [(.int (p1 &&& (8 : Int32)))]) _
        refine XS.ifNo X7702.here hx rfl (hb hby at_147) rfl ((if0 _ _).trans (feq hc8913).1) ?_
        show Sp p e below T7702 (mkF m 150 (lt6 p0 p1 p2 p3 p4 v5 b5) []) _
        refine XS.aload X7702.here hx rfl (hb hby at_150) rfl rfl ?_
        show Sp p e below T7702 (mkF m 152 (lt6 p0 p1 p2 p3 p4 v5 b5) [(.ref b5)]) _
        refine st8915 _ ?_
        show Sp p e below T8915 (mkF m 155 (lt6 p0 p1 p2 p3 p4 v5 b5) [(.ref b67)]) _
        refine XS.iload X8915.here hx rfl (hb hby at_155) rfl ?_
        refine XS.iconst X8915.here hx rfl (hb hby at_157) ?_
        show Sp p e below T8915 (mkF m 158 (lt6 p0 p1 p2 p3 p4 v5 b5) [(.int (3 : Int32)), (.int v5), (.ref b67)]) _
        refine XS.iadd X8915.here hx rfl (hb hby at_158) rfl ?_
        show Sp p e below T8915 (mkF m 159 (lt6 p0 p1 p2 p3 p4 v5 b5) [(.int (v5 + (3 : Int32))), (.ref b67)]) _
        exact kt
      by_cases hc8919 : u_7702 < (((v5 + (3 : Int32)) >>> ((6 : Int32) &&& 31)) + (1 : Int32))
      · have qhc8919 : u_7702.toInt < (((v5 + (3 : Int32)) >>> ((6 : Int32) &&& 31)) + (1 : Int32)).toInt := own_ilt hc8919
        by_cases hc8927 : n_7702 < (((v5 + (3 : Int32)) >>> ((6 : Int32) &&& 31)) + (1 : Int32))
        · have qhc8927 : n_7702.toInt < (((v5 + (3 : Int32)) >>> ((6 : Int32) &&& 31)) + (1 : Int32)).toInt := own_ilt hc8927
          by_cases hc8947 : n_7702 = (1 : Int32)
          · have qhc8947 : n_7702.toInt = (1 : Int32).toInt := congrArg Int32.toInt hc8947
            by_cases hc8967 : ((2 : Int32) * n_7702) < (((v5 + (3 : Int32)) >>> ((6 : Int32) &&& 31)) + (1 : Int32))
            · have qhc8967 : ((2 : Int32) * n_7702).toInt < (((v5 + (3 : Int32)) >>> ((6 : Int32) &&& 31)) + (1 : Int32)).toInt := own_ilt hc8967
              have hsl : sl7702 = 0 := by omega
              obtain ⟨cq9317, kq9317, q9317a, q9317b, q9317c⟩ := isOf hZ e8915 c7702_8
              obtain ⟨_, _, ⟨T9317, L9317, k9317, n9317⟩, -, X9317, ⟨Lc9317, hQ9317, l9317, y9317, z9317⟩, st9317⟩ := X8915.virtualBack hx (y := Y20) (z := Y20) hown (mvT hZ (hw _ (tk 36 rfl))) (mvT hZ (hw _ (tk 37 rfl))) (notFace_of_selects (args := #[]) (mvT hZ (hw _ (tk 39 rfl)))) (mvT hZ (hw _ (tk 39 rfl))) (mvT hZ (hw _ (tk 38 rfl))) (by decide) (backOf (W := 0) (rm6x1 l Z a0 hw hv [] w_1 w_2 hS0 b67 (v5 + (3 : Int32)) w_7702 u_7702 kk7702 n_7702 F_7702 244 h7702 n0 O7702 g_b67 g_w_7702 c7702_8 c7702_10 c7702_11 c7702_9 c7702_12 ne_b67_w_7702 (own_nl' (by omega)) hc8919 hc8927 hc8967 (own_ne' (by omega)) (own_nl' (by omega)) (own_nl' (by omega)) (own_lt' (by omega)) (own_nl' (by omega)) (own_nat (by omega) (by omega)) (by decide)) hZ (hw _ (tk 40 rfl)) (hw _ (tk 11 rfl)) (by decide) (by decide)) q9317a q9317c (g := (mkF m 159 (lt6 p0 p1 p2 p3 p4 v5 b5) [(.int (v5 + (3 : Int32))), (.ref b67)])) rfl (by rw [hml]; rfl) (Steps.refl _) (argsL := [(.int (v5 + (3 : Int32)))]) (rest := []) (lenOf pd_1 rfl) rfl (by show 2 * 0 + _ ≤ _; exact Nat.le_of_eq rfl) (hb hby at_159) (fun _ _ => ⟨rfl, e8915, (by decide : 12 + 1 ≤ _), (by show ((10 + sl4074) + sl7702) + (0 + (0 + (0 + (0 + 244)))) ≤ 1600; omega)⟩)
              dsimp only [Pt.U, Pt.locs, Pt.cells, Pt.slots] at X9317 l9317 y9317 z9317 st9317 hQ9317
              subst l9317 y9317 z9317
              obtain ⟨b9318, k9319, rv9317, N9317q, O9317, K9317c, Fe9317_0, Fe9317_1, Fe9317_2, Fx9317_0, Fx9317_1, Fx9317_2⟩ := hQ9317
              subst rv9317
              have N9317 := Fr.app N7702 N9317q
              have g_b9318 := Fx9317_0
              have ne_b5_b9318 : b5 ≠ b9318 := Nat.ne_of_lt (Nat.lt_of_lt_of_le c7702_0.lt Fx9317_1)
              have ne_b64_b9318 : b64 ≠ b9318 := Nat.ne_of_lt (Nat.lt_of_lt_of_le c7702_3.lt Fx9317_1)
              have ne_w_4074_b9318 : w_4074 ≠ b9318 := Nat.ne_of_lt (Nat.lt_of_lt_of_le c7702_7.lt Fx9317_1)
              have ne_b67_b9318 : b67 ≠ b9318 := Nat.ne_of_lt (Nat.lt_of_lt_of_le c7702_8.lt Fx9317_1)
              have ne_w_7702_b9318 : w_7702 ≠ b9318 := Nat.ne_of_lt (Nat.lt_of_lt_of_le c7702_12.lt Fx9317_1)
              have pre9320 : Cm p e below E0 (T9317.setTop (mkF m 162 (lt6 p0 p1 p2 p3 p4 v5 b5) [])) := fun t kt => by
                refine pre8918 t ?_
                show Sp p e below T8915 (mkF m 159 (lt6 p0 p1 p2 p3 p4 v5 b5) [(.int (v5 + (3 : Int32))), (.ref b67)]) _
                refine st9317.trans ?_
                show Sp p e below T9317 (mkF m 162 (lt6 p0 p1 p2 p3 p4 v5 b5) []) _
                exact kt
              have c9321 := (c7702_0.keep K9317c)
              have c9322 := (c7702_1.keep K9317c (ninS ne_b5_b67 nin0))
              have c9323 := (c7702_2.keep K9317c (ninS ne_b5_b67 nin0))
              have c9324 := (c7702_3.keep K9317c)
              have c9325 := (c7702_4.keep K9317c (ninS Fx63_19 nin0))
              have c9326 := (c7702_5.keep K9317c (ninS Fx63_19 nin0))
              have c9327 := (c7702_6.keep K9317c (ninS Fx63_19 nin0))
              have c9328 := (c7702_7.keep K9317c (ninS (Ne.symm ne_b67_w_4074) nin0))
              have c9329 := (c7702_8.keep K9317c)
              exact ⟨_, _, _, b9318, k9319, (((v5 + (3 : Int32)) >>> ((6 : Int32) &&& 31)) + (1 : Int32)), (((v5 + (3 : Int32)) >>> ((6 : Int32) &&& 31)) + (1 : Int32)), (upF (ovF F_7702 (n_7702).toNatClampNeg (fun _ => (0 : Int64))) (((v5 + (3 : Int32)) >>> ((6 : Int32) &&& 31))).toNatClampNeg (((ovF F_7702 (n_7702).toNatClampNeg (fun _ => (0 : Int64))) (((v5 + (3 : Int32)) >>> ((6 : Int32) &&& 31))).toNatClampNeg) ||| ((1 : Int64) <<< ((v5 + (3 : Int32)) &&& 0x3f).toInt64))), (sl7702 + (0 + (0 + (0 + (0 + 244))))), X9317.more (by decide) (by show ((10 + sl4074) + (sl7702 + (0 + (0 + (0 + (0 + 244)))))) ≤ ((10 + sl4074) + (sl7702 + (0 + (0 + (0 + (0 + 244)))))); omega), rfl, O9317, N9317, c9321, c9322, c9323, c9324, c9325, c9326, c9327, c9328, c9329, Fe9317_2, Fe9317_0, Fe9317_1, Fx9317_2, ne_b5_b9318, ne_b64_b9318, ne_w_4074_b9318, ne_b67_b9318, g_b9318, (by omega), (by show _ ∨ _ ∨ _; omega), (own_setG hI_7702 (m := (8 : Int32)) rfl (by decide) hc8913 hB hi_3 hj_3 (by omega) (by omega) (by omega)), pre9320⟩
            · have qhc8967 : ¬ ((2 : Int32) * n_7702).toInt < (((v5 + (3 : Int32)) >>> ((6 : Int32) &&& 31)) + (1 : Int32)).toInt := own_inl hc8967
              have hsl : sl7702 = 0 := by omega
              obtain ⟨cq9679, kq9679, q9679a, q9679b, q9679c⟩ := isOf hZ e8915 c7702_8
              obtain ⟨_, _, ⟨T9679, L9679, k9679, n9679⟩, -, X9679, ⟨Lc9679, hQ9679, l9679, y9679, z9679⟩, st9679⟩ := X8915.virtualBack hx (y := Y20) (z := Y20) hown (mvT hZ (hw _ (tk 36 rfl))) (mvT hZ (hw _ (tk 37 rfl))) (notFace_of_selects (args := #[]) (mvT hZ (hw _ (tk 39 rfl)))) (mvT hZ (hw _ (tk 39 rfl))) (mvT hZ (hw _ (tk 38 rfl))) (by decide) (backOf (W := 0) (rm6x2 l Z a0 hw hv [] w_1 w_2 hS0 b67 (v5 + (3 : Int32)) w_7702 u_7702 kk7702 n_7702 F_7702 244 h7702 n0 O7702 g_b67 g_w_7702 c7702_8 c7702_10 c7702_11 c7702_9 c7702_12 ne_b67_w_7702 (own_nl' (by omega)) hc8919 hc8927 hc8967 (own_ne' (by omega)) (own_nl' (by omega)) (own_nl' (by omega)) (own_lt' (by omega)) (own_nl' (by omega)) (own_nat (by omega) (by omega)) (by decide)) hZ (hw _ (tk 40 rfl)) (hw _ (tk 11 rfl)) (by decide) (by decide)) q9679a q9679c (g := (mkF m 159 (lt6 p0 p1 p2 p3 p4 v5 b5) [(.int (v5 + (3 : Int32))), (.ref b67)])) rfl (by rw [hml]; rfl) (Steps.refl _) (argsL := [(.int (v5 + (3 : Int32)))]) (rest := []) (lenOf pd_1 rfl) rfl (by show 2 * 0 + _ ≤ _; exact Nat.le_of_eq rfl) (hb hby at_159) (fun _ _ => ⟨rfl, e8915, (by decide : 12 + 1 ≤ _), (by show ((10 + sl4074) + sl7702) + (0 + (0 + (0 + (0 + 244)))) ≤ 1600; omega)⟩)
              dsimp only [Pt.U, Pt.locs, Pt.cells, Pt.slots] at X9679 l9679 y9679 z9679 st9679 hQ9679
              subst l9679 y9679 z9679
              obtain ⟨b9680, k9681, rv9679, N9679q, O9679, K9679c, Fe9679_0, Fe9679_1, Fe9679_2, Fx9679_0, Fx9679_1, Fx9679_2⟩ := hQ9679
              subst rv9679
              have N9679 := Fr.app N7702 N9679q
              have g_b9680 := Fx9679_0
              have ne_b5_b9680 : b5 ≠ b9680 := Nat.ne_of_lt (Nat.lt_of_lt_of_le c7702_0.lt Fx9679_1)
              have ne_b64_b9680 : b64 ≠ b9680 := Nat.ne_of_lt (Nat.lt_of_lt_of_le c7702_3.lt Fx9679_1)
              have ne_w_4074_b9680 : w_4074 ≠ b9680 := Nat.ne_of_lt (Nat.lt_of_lt_of_le c7702_7.lt Fx9679_1)
              have ne_b67_b9680 : b67 ≠ b9680 := Nat.ne_of_lt (Nat.lt_of_lt_of_le c7702_8.lt Fx9679_1)
              have ne_w_7702_b9680 : w_7702 ≠ b9680 := Nat.ne_of_lt (Nat.lt_of_lt_of_le c7702_12.lt Fx9679_1)
              have pre9682 : Cm p e below E0 (T9679.setTop (mkF m 162 (lt6 p0 p1 p2 p3 p4 v5 b5) [])) := fun t kt => by
                refine pre8918 t ?_
                show Sp p e below T8915 (mkF m 159 (lt6 p0 p1 p2 p3 p4 v5 b5) [(.int (v5 + (3 : Int32))), (.ref b67)]) _
                refine st9679.trans ?_
                show Sp p e below T9679 (mkF m 162 (lt6 p0 p1 p2 p3 p4 v5 b5) []) _
                exact kt
              have c9683 := (c7702_0.keep K9679c)
              have c9684 := (c7702_1.keep K9679c (ninS ne_b5_b67 nin0))
              have c9685 := (c7702_2.keep K9679c (ninS ne_b5_b67 nin0))
              have c9686 := (c7702_3.keep K9679c)
              have c9687 := (c7702_4.keep K9679c (ninS Fx63_19 nin0))
              have c9688 := (c7702_5.keep K9679c (ninS Fx63_19 nin0))
              have c9689 := (c7702_6.keep K9679c (ninS Fx63_19 nin0))
              have c9690 := (c7702_7.keep K9679c (ninS (Ne.symm ne_b67_w_4074) nin0))
              have c9691 := (c7702_8.keep K9679c)
              exact ⟨_, _, _, b9680, k9681, ((2 : Int32) * n_7702), (((v5 + (3 : Int32)) >>> ((6 : Int32) &&& 31)) + (1 : Int32)), (upF (ovF F_7702 (n_7702).toNatClampNeg (fun _ => (0 : Int64))) (((v5 + (3 : Int32)) >>> ((6 : Int32) &&& 31))).toNatClampNeg (((ovF F_7702 (n_7702).toNatClampNeg (fun _ => (0 : Int64))) (((v5 + (3 : Int32)) >>> ((6 : Int32) &&& 31))).toNatClampNeg) ||| ((1 : Int64) <<< ((v5 + (3 : Int32)) &&& 0x3f).toInt64))), (sl7702 + (0 + (0 + (0 + (0 + 244))))), X9679.more (by decide) (by show ((10 + sl4074) + (sl7702 + (0 + (0 + (0 + (0 + 244)))))) ≤ ((10 + sl4074) + (sl7702 + (0 + (0 + (0 + (0 + 244)))))); omega), rfl, O9679, N9679, c9683, c9684, c9685, c9686, c9687, c9688, c9689, c9690, c9691, Fe9679_2, Fe9679_0, Fe9679_1, Fx9679_2, ne_b5_b9680, ne_b64_b9680, ne_w_4074_b9680, ne_b67_b9680, g_b9680, (by omega), (by show _ ∨ _ ∨ _; omega), (own_setG hI_7702 (m := (8 : Int32)) rfl (by decide) hc8913 hB hi_3 hj_3 (by omega) (by omega) (by omega)), pre9682⟩
          · have qhc8947 : ¬ n_7702.toInt = (1 : Int32).toInt := own_ine hc8947
            have hsl : sl7702 ≤ 244 := by omega
            obtain ⟨cq10041, kq10041, q10041a, q10041b, q10041c⟩ := isOf hZ e8915 c7702_8
            obtain ⟨_, _, ⟨T10041, L10041, k10041, n10041⟩, -, X10041, ⟨Lc10041, hQ10041, l10041, y10041, z10041⟩, st10041⟩ := X8915.virtualBack hx (y := Y20) (z := Y20) hown (mvT hZ (hw _ (tk 36 rfl))) (mvT hZ (hw _ (tk 37 rfl))) (notFace_of_selects (args := #[]) (mvT hZ (hw _ (tk 39 rfl)))) (mvT hZ (hw _ (tk 39 rfl))) (mvT hZ (hw _ (tk 38 rfl))) (by decide) (backOf (W := 0) (rm6x2 l Z a0 hw hv [] w_1 w_2 hS0 b67 (v5 + (3 : Int32)) w_7702 u_7702 kk7702 n_7702 F_7702 488 h7702 n0 O7702 g_b67 g_w_7702 c7702_8 c7702_10 c7702_11 c7702_9 c7702_12 ne_b67_w_7702 (own_nl' (by omega)) hc8919 hc8927 (own_nl' (by omega)) (own_ne' (by omega)) (own_nl' (by omega)) (own_nl' (by omega)) (own_lt' (by omega)) (own_nl' (by omega)) (own_nat (by omega) (by omega)) (by decide)) hZ (hw _ (tk 40 rfl)) (hw _ (tk 11 rfl)) (by decide) (by decide)) q10041a q10041c (g := (mkF m 159 (lt6 p0 p1 p2 p3 p4 v5 b5) [(.int (v5 + (3 : Int32))), (.ref b67)])) rfl (by rw [hml]; rfl) (Steps.refl _) (argsL := [(.int (v5 + (3 : Int32)))]) (rest := []) (lenOf pd_1 rfl) rfl (by show 2 * 0 + _ ≤ _; exact Nat.le_of_eq rfl) (hb hby at_159) (fun _ _ => ⟨rfl, e8915, (by decide : 12 + 1 ≤ _), (by show ((10 + sl4074) + sl7702) + (0 + (0 + (0 + (0 + 488)))) ≤ 1600; omega)⟩)
            dsimp only [Pt.U, Pt.locs, Pt.cells, Pt.slots] at X10041 l10041 y10041 z10041 st10041 hQ10041
            subst l10041 y10041 z10041
            obtain ⟨b10042, k10043, rv10041, N10041q, O10041, K10041c, Fe10041_0, Fe10041_1, Fe10041_2, Fx10041_0, Fx10041_1, Fx10041_2⟩ := hQ10041
            subst rv10041
            have N10041 := Fr.app N7702 N10041q
            have g_b10042 := Fx10041_0
            have ne_b5_b10042 : b5 ≠ b10042 := Nat.ne_of_lt (Nat.lt_of_lt_of_le c7702_0.lt Fx10041_1)
            have ne_b64_b10042 : b64 ≠ b10042 := Nat.ne_of_lt (Nat.lt_of_lt_of_le c7702_3.lt Fx10041_1)
            have ne_w_4074_b10042 : w_4074 ≠ b10042 := Nat.ne_of_lt (Nat.lt_of_lt_of_le c7702_7.lt Fx10041_1)
            have ne_b67_b10042 : b67 ≠ b10042 := Nat.ne_of_lt (Nat.lt_of_lt_of_le c7702_8.lt Fx10041_1)
            have ne_w_7702_b10042 : w_7702 ≠ b10042 := Nat.ne_of_lt (Nat.lt_of_lt_of_le c7702_12.lt Fx10041_1)
            have pre10044 : Cm p e below E0 (T10041.setTop (mkF m 162 (lt6 p0 p1 p2 p3 p4 v5 b5) [])) := fun t kt => by
              refine pre8918 t ?_
              show Sp p e below T8915 (mkF m 159 (lt6 p0 p1 p2 p3 p4 v5 b5) [(.int (v5 + (3 : Int32))), (.ref b67)]) _
              refine st10041.trans ?_
              show Sp p e below T10041 (mkF m 162 (lt6 p0 p1 p2 p3 p4 v5 b5) []) _
              exact kt
            have c10045 := (c7702_0.keep K10041c)
            have c10046 := (c7702_1.keep K10041c (ninS ne_b5_b67 nin0))
            have c10047 := (c7702_2.keep K10041c (ninS ne_b5_b67 nin0))
            have c10048 := (c7702_3.keep K10041c)
            have c10049 := (c7702_4.keep K10041c (ninS Fx63_19 nin0))
            have c10050 := (c7702_5.keep K10041c (ninS Fx63_19 nin0))
            have c10051 := (c7702_6.keep K10041c (ninS Fx63_19 nin0))
            have c10052 := (c7702_7.keep K10041c (ninS (Ne.symm ne_b67_w_4074) nin0))
            have c10053 := (c7702_8.keep K10041c)
            exact ⟨_, _, _, b10042, k10043, ((2 : Int32) * n_7702), (((v5 + (3 : Int32)) >>> ((6 : Int32) &&& 31)) + (1 : Int32)), (upF (ovF F_7702 (n_7702).toNatClampNeg (fun _ => (0 : Int64))) (((v5 + (3 : Int32)) >>> ((6 : Int32) &&& 31))).toNatClampNeg (((ovF F_7702 (n_7702).toNatClampNeg (fun _ => (0 : Int64))) (((v5 + (3 : Int32)) >>> ((6 : Int32) &&& 31))).toNatClampNeg) ||| ((1 : Int64) <<< ((v5 + (3 : Int32)) &&& 0x3f).toInt64))), (sl7702 + (0 + (0 + (0 + (0 + 488))))), X10041.more (by decide) (by show ((10 + sl4074) + (sl7702 + (0 + (0 + (0 + (0 + 488)))))) ≤ ((10 + sl4074) + (sl7702 + (0 + (0 + (0 + (0 + 488)))))); omega), rfl, O10041, N10041, c10045, c10046, c10047, c10048, c10049, c10050, c10051, c10052, c10053, Fe10041_2, Fe10041_0, Fe10041_1, Fx10041_2, ne_b5_b10042, ne_b64_b10042, ne_w_4074_b10042, ne_b67_b10042, g_b10042, (by omega), (by show _ ∨ _ ∨ _; omega), (own_setG hI_7702 (m := (8 : Int32)) rfl (by decide) hc8913 hB hi_3 hj_3 (by omega) (by omega) (by omega)), pre10044⟩
        · have qhc8927 : ¬ n_7702.toInt < (((v5 + (3 : Int32)) >>> ((6 : Int32) &&& 31)) + (1 : Int32)).toInt := own_inl hc8927
          obtain ⟨cq10079, kq10079, q10079a, q10079b, q10079c⟩ := isOf hZ e8915 c7702_8
          obtain ⟨_, _, ⟨T10079, L10079, k10079, n10079⟩, -, X10079, ⟨Lc10079, hQ10079, l10079, y10079, z10079⟩, st10079⟩ := X8915.virtualBack hx (y := Y20) (z := Y20) hown (mvT hZ (hw _ (tk 36 rfl))) (mvT hZ (hw _ (tk 37 rfl))) (notFace_of_selects (args := #[]) (mvT hZ (hw _ (tk 39 rfl)))) (mvT hZ (hw _ (tk 39 rfl))) (mvT hZ (hw _ (tk 38 rfl))) (by decide) (backOf (W := 0) (rm6x3 l Z a0 hw hv [] w_1 w_2 hS0 b67 (v5 + (3 : Int32)) w_7702 u_7702 kk7702 n_7702 F_7702 h7702 n0 O7702 g_b67 g_w_7702 c7702_8 c7702_10 c7702_11 c7702_9 c7702_12 ne_b67_w_7702 (own_nl' (by omega)) hc8919 hc8927 (own_lt' (by omega)) (own_nl' (by omega))) hZ (hw _ (tk 40 rfl)) (hw _ (tk 11 rfl)) (by decide) (by decide)) q10079a q10079c (g := (mkF m 159 (lt6 p0 p1 p2 p3 p4 v5 b5) [(.int (v5 + (3 : Int32))), (.ref b67)])) rfl (by rw [hml]; rfl) (Steps.refl _) (argsL := [(.int (v5 + (3 : Int32)))]) (rest := []) (lenOf pd_1 rfl) rfl (by show 2 * 0 + _ ≤ _; exact Nat.le_of_eq rfl) (hb hby at_159) (fun _ _ => ⟨rfl, e8915, (by decide : 12 + 0 ≤ _), (by show ((10 + sl4074) + sl7702) + 0 ≤ 1600; omega)⟩)
          dsimp only [Pt.U, Pt.locs, Pt.cells, Pt.slots] at X10079 l10079 y10079 z10079 st10079 hQ10079
          subst l10079 y10079 z10079
          obtain ⟨rv10079, N10079q, O10079, K10079c, Fe10079_0, Fe10079_1, Fe10079_2, Fe10079_3⟩ := hQ10079
          subst rv10079
          have N10079 := Fr.app N7702 N10079q
          have pre10080 : Cm p e below E0 (T10079.setTop (mkF m 162 (lt6 p0 p1 p2 p3 p4 v5 b5) [])) := fun t kt => by
            refine pre8918 t ?_
            show Sp p e below T8915 (mkF m 159 (lt6 p0 p1 p2 p3 p4 v5 b5) [(.int (v5 + (3 : Int32))), (.ref b67)]) _
            refine st10079.trans ?_
            show Sp p e below T10079 (mkF m 162 (lt6 p0 p1 p2 p3 p4 v5 b5) []) _
            exact kt
          have c10081 := (c7702_0.keep K10079c)
          have c10082 := (c7702_1.keep K10079c (ninS ne_b5_b67 (ninS ne_b5_w_7702 nin0)))
          have c10083 := (c7702_2.keep K10079c (ninS ne_b5_b67 (ninS ne_b5_w_7702 nin0)))
          have c10084 := (c7702_3.keep K10079c)
          have c10085 := (c7702_4.keep K10079c (ninS Fx63_19 (ninS ne_b64_w_7702 nin0)))
          have c10086 := (c7702_5.keep K10079c (ninS Fx63_19 (ninS ne_b64_w_7702 nin0)))
          have c10087 := (c7702_6.keep K10079c (ninS Fx63_19 (ninS ne_b64_w_7702 nin0)))
          have c10088 := (c7702_7.keep K10079c (ninS (Ne.symm ne_b67_w_4074) (ninS ne_w_4074_w_7702 nin0)))
          have c10089 := (c7702_8.keep K10079c)
          exact ⟨_, _, _, w_7702, kk7702, n_7702, (((v5 + (3 : Int32)) >>> ((6 : Int32) &&& 31)) + (1 : Int32)), (upF F_7702 (((v5 + (3 : Int32)) >>> ((6 : Int32) &&& 31))).toNatClampNeg ((F_7702 (((v5 + (3 : Int32)) >>> ((6 : Int32) &&& 31))).toNatClampNeg) ||| ((1 : Int64) <<< ((v5 + (3 : Int32)) &&& 0x3f).toInt64))), sl7702, X10079.more (by decide) (by show ((10 + sl4074) + sl7702) ≤ ((10 + sl4074) + sl7702); omega), rfl, O10079, N10079, c10081, c10082, c10083, c10084, c10085, c10086, c10087, c10088, c10089, Fe10079_2, Fe10079_0, Fe10079_1, Fe10079_3, ne_b5_w_7702, ne_b64_w_7702, ne_w_4074_w_7702, ne_b67_w_7702, g_w_7702, (by omega), (by show _ ∨ _ ∨ _; omega), (own_set hI_7702 (m := (8 : Int32)) rfl (by decide) hc8913 hB hi_3 hj_3 (by omega) (by omega)), pre10080⟩
      · have qhc8919 : ¬ u_7702.toInt < (((v5 + (3 : Int32)) >>> ((6 : Int32) &&& 31)) + (1 : Int32)).toInt := own_inl hc8919
        obtain ⟨cq10106, kq10106, q10106a, q10106b, q10106c⟩ := isOf hZ e8915 c7702_8
        obtain ⟨_, _, ⟨T10106, L10106, k10106, n10106⟩, -, X10106, ⟨Lc10106, hQ10106, l10106, y10106, z10106⟩, st10106⟩ := X8915.virtualBack hx (y := Y20) (z := Y20) hown (mvT hZ (hw _ (tk 36 rfl))) (mvT hZ (hw _ (tk 37 rfl))) (notFace_of_selects (args := #[]) (mvT hZ (hw _ (tk 39 rfl)))) (mvT hZ (hw _ (tk 39 rfl))) (mvT hZ (hw _ (tk 38 rfl))) (by decide) (backOf (W := 0) (rm6x4 l Z a0 hw hv [] w_1 w_2 hS0 b67 (v5 + (3 : Int32)) w_7702 u_7702 kk7702 n_7702 F_7702 h7702 n0 O7702 g_b67 g_w_7702 c7702_8 c7702_10 c7702_11 c7702_9 c7702_12 ne_b67_w_7702 (own_nl' (by omega)) hc8919 (own_lt' (by omega)) (own_nl' (by omega))) hZ (hw _ (tk 40 rfl)) (hw _ (tk 11 rfl)) (by decide) (by decide)) q10106a q10106c (g := (mkF m 159 (lt6 p0 p1 p2 p3 p4 v5 b5) [(.int (v5 + (3 : Int32))), (.ref b67)])) rfl (by rw [hml]; rfl) (Steps.refl _) (argsL := [(.int (v5 + (3 : Int32)))]) (rest := []) (lenOf pd_1 rfl) rfl (by show 2 * 0 + _ ≤ _; exact Nat.le_of_eq rfl) (hb hby at_159) (fun _ _ => ⟨rfl, e8915, (by decide : 12 + 0 ≤ _), (by show ((10 + sl4074) + sl7702) + 0 ≤ 1600; omega)⟩)
        dsimp only [Pt.U, Pt.locs, Pt.cells, Pt.slots] at X10106 l10106 y10106 z10106 st10106 hQ10106
        subst l10106 y10106 z10106
        obtain ⟨rv10106, N10106q, O10106, K10106c, Fe10106_0⟩ := hQ10106
        subst rv10106
        have N10106 := Fr.app N7702 N10106q
        have pre10107 : Cm p e below E0 (T10106.setTop (mkF m 162 (lt6 p0 p1 p2 p3 p4 v5 b5) [])) := fun t kt => by
          refine pre8918 t ?_
          show Sp p e below T8915 (mkF m 159 (lt6 p0 p1 p2 p3 p4 v5 b5) [(.int (v5 + (3 : Int32))), (.ref b67)]) _
          refine st10106.trans ?_
          show Sp p e below T10106 (mkF m 162 (lt6 p0 p1 p2 p3 p4 v5 b5) []) _
          exact kt
        have c10108 := (c7702_0.keep K10106c)
        have c10109 := (c7702_1.keep K10106c (ninS ne_b5_w_7702 nin0))
        have c10110 := (c7702_2.keep K10106c (ninS ne_b5_w_7702 nin0))
        have c10111 := (c7702_3.keep K10106c)
        have c10112 := (c7702_4.keep K10106c (ninS ne_b64_w_7702 nin0))
        have c10113 := (c7702_5.keep K10106c (ninS ne_b64_w_7702 nin0))
        have c10114 := (c7702_6.keep K10106c (ninS ne_b64_w_7702 nin0))
        have c10115 := (c7702_7.keep K10106c (ninS ne_w_4074_w_7702 nin0))
        have c10116 := (c7702_8.keep K10106c)
        have c10117 := (c7702_9.keep K10106c (ninS ne_b67_w_7702 nin0))
        have c10118 := (c7702_10.keep K10106c (ninS ne_b67_w_7702 nin0))
        have c10119 := (c7702_11.keep K10106c (ninS ne_b67_w_7702 nin0))
        exact ⟨_, _, _, w_7702, kk7702, n_7702, u_7702, (upF F_7702 (((v5 + (3 : Int32)) >>> ((6 : Int32) &&& 31))).toNatClampNeg ((F_7702 (((v5 + (3 : Int32)) >>> ((6 : Int32) &&& 31))).toNatClampNeg) ||| ((1 : Int64) <<< ((v5 + (3 : Int32)) &&& 0x3f).toInt64))), sl7702, X10106.more (by decide) (by show ((10 + sl4074) + sl7702) ≤ ((10 + sl4074) + sl7702); omega), rfl, O10106, N10106, c10108, c10109, c10110, c10111, c10112, c10113, c10114, c10115, c10116, c10117, c10118, c10119, Fe10106_0, ne_b5_w_7702, ne_b64_w_7702, ne_w_4074_w_7702, ne_b67_w_7702, g_w_7702, (by omega), (by show _ ∨ _ ∨ _; omega), (own_set hI_7702 (m := (8 : Int32)) rfl (by decide) hc8913 hB hi_3 hj_3 (by omega) (by omega)), pre10107⟩
  have h2_8911 : ((2 : Int32) * n_8911).toInt = 2 * (n_8911).toInt := own_dbl _ (by omega) (by omega)
  have pre10120 : Cm p e below E0 (T8911.setTop (mkF m 190 (lt14 p0 p1 p2 p3 p4 v5 b5 (p2 &&& (7 : Int32)) (((p2.toUInt32 >>> ((3 : Int32) &&& 31).toUInt32).toInt32) &&& (7 : Int32)) (((p2.toUInt32 >>> ((6 : Int32) &&& 31).toUInt32).toInt32) &&& (7 : Int32)) (p3 &&& (3 : Int32))) [])) := fun t kt => by
    refine pre8911 t ?_
    show Sp p e below T8911 (mkF m 162 (lt6 p0 p1 p2 p3 p4 v5 b5) []) _
    refine XS.iloadN X8911.here hx rfl (hb hby at_162) rfl ?_
    refine XS.bipush X8911.here hx rfl (hb hby at_163) ?_
    show Sp p e below T8911 (mkF m 165 (lt6 p0 p1 p2 p3 p4 v5 b5) [(.int (7 : Int32)), (.int p2)]) _
    refine XS.iand X8911.here hx rfl (hb hby at_165) rfl ?_
    refine XS.istore X8911.here hx rfl (hb hby at_166) rfl (l' := (lt11 p0 p1 p2 p3 p4 v5 b5 (p2 &&& (7 : Int32)))) rfl ?_
    show Sp p e below T8911 (mkF m 168 (lt11 p0 p1 p2 p3 p4 v5 b5 (p2 &&& (7 : Int32))) []) _
    refine XS.iloadN X8911.here hx rfl (hb hby at_168) rfl ?_
    refine XS.iconst X8911.here hx rfl (hb hby at_169) ?_
    show Sp p e below T8911 (mkF m 170 (lt11 p0 p1 p2 p3 p4 v5 b5 (p2 &&& (7 : Int32))) [(.int (3 : Int32)), (.int p2)]) _
    refine XS.iushr X8911.here hx rfl (hb hby at_170) rfl ?_
    refine XS.bipush X8911.here hx rfl (hb hby at_171) ?_
    show Sp p e below T8911 (mkF m 173 (lt11 p0 p1 p2 p3 p4 v5 b5 (p2 &&& (7 : Int32))) [(.int (7 : Int32)), (.int ((p2.toUInt32 >>> ((3 : Int32) &&& 31).toUInt32).toInt32))]) _
    refine XS.iand X8911.here hx rfl (hb hby at_173) rfl ?_
    refine XS.istore X8911.here hx rfl (hb hby at_174) rfl (l' := (lt12 p0 p1 p2 p3 p4 v5 b5 (p2 &&& (7 : Int32)) (((p2.toUInt32 >>> ((3 : Int32) &&& 31).toUInt32).toInt32) &&& (7 : Int32)))) rfl ?_
    show Sp p e below T8911 (mkF m 176 (lt12 p0 p1 p2 p3 p4 v5 b5 (p2 &&& (7 : Int32)) (((p2.toUInt32 >>> ((3 : Int32) &&& 31).toUInt32).toInt32) &&& (7 : Int32))) []) _
    refine XS.iloadN X8911.here hx rfl (hb hby at_176) rfl ?_
    refine XS.bipush X8911.here hx rfl (hb hby at_177) ?_
    show Sp p e below T8911 (mkF m 179 (lt12 p0 p1 p2 p3 p4 v5 b5 (p2 &&& (7 : Int32)) (((p2.toUInt32 >>> ((3 : Int32) &&& 31).toUInt32).toInt32) &&& (7 : Int32))) [(.int (6 : Int32)), (.int p2)]) _
    refine XS.iushr X8911.here hx rfl (hb hby at_179) rfl ?_
    refine XS.bipush X8911.here hx rfl (hb hby at_180) ?_
    show Sp p e below T8911 (mkF m 182 (lt12 p0 p1 p2 p3 p4 v5 b5 (p2 &&& (7 : Int32)) (((p2.toUInt32 >>> ((3 : Int32) &&& 31).toUInt32).toInt32) &&& (7 : Int32))) [(.int (7 : Int32)), (.int ((p2.toUInt32 >>> ((6 : Int32) &&& 31).toUInt32).toInt32))]) _
    refine XS.iand X8911.here hx rfl (hb hby at_182) rfl ?_
    refine XS.istore X8911.here hx rfl (hb hby at_183) rfl (l' := (lt13 p0 p1 p2 p3 p4 v5 b5 (p2 &&& (7 : Int32)) (((p2.toUInt32 >>> ((3 : Int32) &&& 31).toUInt32).toInt32) &&& (7 : Int32)) (((p2.toUInt32 >>> ((6 : Int32) &&& 31).toUInt32).toInt32) &&& (7 : Int32)))) rfl ?_
    show Sp p e below T8911 (mkF m 185 (lt13 p0 p1 p2 p3 p4 v5 b5 (p2 &&& (7 : Int32)) (((p2.toUInt32 >>> ((3 : Int32) &&& 31).toUInt32).toInt32) &&& (7 : Int32)) (((p2.toUInt32 >>> ((6 : Int32) &&& 31).toUInt32).toInt32) &&& (7 : Int32))) []) _
    refine XS.iloadN X8911.here hx rfl (hb hby at_185) rfl ?_
    refine XS.iconst X8911.here hx rfl (hb hby at_186) ?_
    show Sp p e below T8911 (mkF m 187 (lt13 p0 p1 p2 p3 p4 v5 b5 (p2 &&& (7 : Int32)) (((p2.toUInt32 >>> ((3 : Int32) &&& 31).toUInt32).toInt32) &&& (7 : Int32)) (((p2.toUInt32 >>> ((6 : Int32) &&& 31).toUInt32).toInt32) &&& (7 : Int32))) [(.int (3 : Int32)), (.int p3)]) _
    refine XS.iand X8911.here hx rfl (hb hby at_187) rfl ?_
    refine XS.istore X8911.here hx rfl (hb hby at_188) rfl (l' := (lt14 p0 p1 p2 p3 p4 v5 b5 (p2 &&& (7 : Int32)) (((p2.toUInt32 >>> ((3 : Int32) &&& 31).toUInt32).toInt32) &&& (7 : Int32)) (((p2.toUInt32 >>> ((6 : Int32) &&& 31).toUInt32).toInt32) &&& (7 : Int32)) (p3 &&& (3 : Int32)))) rfl ?_
    show Sp p e below T8911 (mkF m 190 (lt14 p0 p1 p2 p3 p4 v5 b5 (p2 &&& (7 : Int32)) (((p2.toUInt32 >>> ((3 : Int32) &&& 31).toUInt32).toInt32) &&& (7 : Int32)) (((p2.toUInt32 >>> ((6 : Int32) &&& 31).toUInt32).toInt32) &&& (7 : Int32)) (p3 &&& (3 : Int32))) []) _
    exact kt
  obtain ⟨v7, d_v7⟩ : ∃ z : Int32, z = (p2 &&& (7 : Int32)) := ⟨_, rfl⟩
  have pre10121 : Cm p e below E0 (T8911.setTop (mkF m 190 (lt14 p0 p1 p2 p3 p4 v5 b5 v7 (((p2.toUInt32 >>> ((3 : Int32) &&& 31).toUInt32).toInt32) &&& (7 : Int32)) (((p2.toUInt32 >>> ((6 : Int32) &&& 31).toUInt32).toInt32) &&& (7 : Int32)) (p3 &&& (3 : Int32))) [])) := fun t kt => pre10120 t (by rw [← d_v7]; exact kt)
  have r_v7 : 0 ≤ v7.toInt ∧ v7.toInt < 8 := by rw [d_v7]; exact (own_rand p2 (7 : Int32) 8 (by decide) (by decide))
  obtain ⟨v8, d_v8⟩ : ∃ z : Int32, z = (((p2.toUInt32 >>> ((3 : Int32) &&& 31).toUInt32).toInt32) &&& (7 : Int32)) := ⟨_, rfl⟩
  have pre10122 : Cm p e below E0 (T8911.setTop (mkF m 190 (lt14 p0 p1 p2 p3 p4 v5 b5 v7 v8 (((p2.toUInt32 >>> ((6 : Int32) &&& 31).toUInt32).toInt32) &&& (7 : Int32)) (p3 &&& (3 : Int32))) [])) := fun t kt => pre10121 t (by rw [← d_v8]; exact kt)
  have r_v8 : 0 ≤ v8.toInt ∧ v8.toInt < 8 := by rw [d_v8]; exact (own_rand ((p2.toUInt32 >>> ((3 : Int32) &&& 31).toUInt32).toInt32) (7 : Int32) 8 (by decide) (by decide))
  obtain ⟨v9, d_v9⟩ : ∃ z : Int32, z = (((p2.toUInt32 >>> ((6 : Int32) &&& 31).toUInt32).toInt32) &&& (7 : Int32)) := ⟨_, rfl⟩
  have pre10123 : Cm p e below E0 (T8911.setTop (mkF m 190 (lt14 p0 p1 p2 p3 p4 v5 b5 v7 v8 v9 (p3 &&& (3 : Int32))) [])) := fun t kt => pre10122 t (by rw [← d_v9]; exact kt)
  have r_v9 : 0 ≤ v9.toInt ∧ v9.toInt < 8 := by rw [d_v9]; exact (own_rand ((p2.toUInt32 >>> ((6 : Int32) &&& 31).toUInt32).toInt32) (7 : Int32) 8 (by decide) (by decide))
  obtain ⟨v10, d_v10⟩ : ∃ z : Int32, z = (p3 &&& (3 : Int32)) := ⟨_, rfl⟩
  have pre10124 : Cm p e below E0 (T8911.setTop (mkF m 190 (lt14 p0 p1 p2 p3 p4 v5 b5 v7 v8 v9 v10) [])) := fun t kt => pre10123 t (by rw [← d_v10]; exact kt)
  have r_v10 : 0 ≤ v10.toInt ∧ v10.toInt < 4 := by rw [d_v10]; exact (own_rand p3 (3 : Int32) 4 (by decide) (by decide))
  by_cases hc10125 : v10 = (0 : Int32)
  · obtain ⟨T10126, h10126, k10126, X10126, e10126, E10126, A10126, st10126⟩ := newP X8911 hx hZ (hw _ (tk 57 rfl)) e8911 (g := (mkF m 196 (lt14 p0 p1 p2 p3 p4 v5 b5 v7 v8 v9 v10) [(.int (0 : Int32))])) rfl (hb hby at_196) rfl (by decide) (cap := 0) (by decide) (by decide) (by decide) (by show ((10 + sl4074) + sl8911) + 0 ≤ 1600; omega)
    obtain ⟨b10126, g10126⟩ : ∃ z, z = h8911.size := ⟨_, rfl⟩
    rw [← g10126] at A10126 st10126
    have g_b10126 : n0 ≤ b10126 := Nat.le_trans (own_old O8911) (Nat.le_of_eq g10126.symm)
    have ne_b5_b10126 : b5 ≠ b10126 := Nat.ne_of_lt (Nat.lt_of_lt_of_le c8911_0.lt (Nat.le_of_eq g10126.symm))
    have ne_b64_b10126 : b64 ≠ b10126 := Nat.ne_of_lt (Nat.lt_of_lt_of_le c8911_3.lt (Nat.le_of_eq g10126.symm))
    have ne_w_4074_b10126 : w_4074 ≠ b10126 := Nat.ne_of_lt (Nat.lt_of_lt_of_le c8911_7.lt (Nat.le_of_eq g10126.symm))
    have ne_b67_b10126 : b67 ≠ b10126 := Nat.ne_of_lt (Nat.lt_of_lt_of_le c8911_8.lt (Nat.le_of_eq g10126.symm))
    have ne_w_8911_b10126 : w_8911 ≠ b10126 := Nat.ne_of_lt (Nat.lt_of_lt_of_le c8911_12.lt (Nat.le_of_eq g10126.symm))
    have O10126 : Old Z n0 h10126 := O8911.ext E10126
    have V_b10126 : Arv Z h10126 b10126 k10126 .int (0 : Int32) [] (.int (0 : Int32)) := (Arv.new A10126 (by decide)).pad (pad_rep [] (.int (0 : Int32)) 0)
    have c10128 := (c8911_0.ext E10126)
    have c10129 := (c8911_2.ext E10126)
    have c10130 := (c8911_1.ext E10126)
    have c10131 := (c8911_8.ext E10126)
    have c10132 := (c8911_11.ext E10126)
    have c10133 := (c8911_9.ext E10126)
    have c10134 := (c8911_12.ext E10126)
    have c10135 := (c8911_3.ext E10126)
    have c10136 := (c8911_6.ext E10126)
    have c10137 := (c8911_4.ext E10126)
    have c10138 := (c8911_7.ext E10126)
    obtain ⟨cq10139, kq10139, q10139a, q10139b, q10139c⟩ := isOf hZ e10126 c10128
    obtain ⟨_, _, ⟨T10139, L10139, k10139, n10139⟩, -, X10139, ⟨Lc10139, hQ10139, l10139, y10139, z10139⟩, st10139⟩ := X10126.virtualBack hx (y := Y31) (z := Y31) hown (mvT hZ (hw _ (tk 58 rfl))) (mvT hZ (hw _ (tk 59 rfl))) (notFace_of_selects (args := #[]) (mvT hZ (hw _ (tk 61 rfl)))) (mvT hZ (hw _ (tk 61 rfl))) (mvT hZ (hw _ (tk 60 rfl))) (by decide) (backOf (W := 0) (rm10x1 l Z a0 hw hv [] w_1 w_2 hS0 b5 b10126 b67 w_8911 b64 w_4074 u_8911 kk8911 n_8911 F_8911 u_4074 kk4074 n_4074 F_4074 k10126 h10126 n0 O10126 g_b5 g_b67 g_w_8911 g_b64 g_w_4074 g_b10126 c10128 c10129 c10130 c10131 c10132 c10133 c10134 c10135 c10136 c10137 c10138 V_b10126 ne_b5_b67 ne_b5_w_8911 ne_b5_b64 ne_b5_w_4074 ne_b5_b10126 ne_b67_w_8911 (Ne.symm Fx63_19) ne_b67_w_4074 ne_b67_b10126 (Ne.symm ne_b64_w_8911) (Ne.symm ne_w_4074_w_8911) ne_w_8911_b10126 ne_b64_w_4074 ne_b64_b10126 ne_w_4074_b10126 (fun z => by have z := Int32.lt_iff_toInt_lt.mp z; omega) (fun z => by have z := Int32.lt_iff_toInt_lt.mp z; omega)) hZ (hw _ (tk 62 rfl)) (hw _ (tk 2 rfl)) (by decide) (by decide)) q10139a q10139c (g := (mkF m 288 (lt15 p0 p1 p2 p3 p4 v5 b5 v7 v8 v9 v10 b10126) [(.ref b10126), (.ref b5)])) rfl (by rw [hml]; rfl) (Steps.refl _) (argsL := [(.ref b10126)]) (rest := []) (lenOf pd_5 rfl) rfl (by show 2 * 0 + _ ≤ _; exact Nat.le_of_eq rfl) (hb hby at_288) (fun _ _ => ⟨rfl, e10126, (by decide : 14 + 0 ≤ _), (by show ((10 + sl4074) + sl8911) + 0 ≤ 1600; omega)⟩)
    dsimp only [Pt.U, Pt.locs, Pt.cells, Pt.slots] at X10139 l10139 y10139 z10139 st10139 hQ10139
    subst l10139 y10139 z10139
    obtain ⟨rv10139, N10139q, e10139⟩ := hQ10139
    rw [show sp10x1 = .null from by unfold sp10x1; rfl] at rv10139
    subst rv10139
    have N10139 := Fr.app N8911 N10139q
    have pre10140 : Cm p e below E0 (T10139.setTop (mkF m 293 (lt21 p0 p1 p2 p3 p4 v5 b5 v7 v8 v9 v10 b10126) [])) := fun t kt => by
      refine pre10124 t ?_
      show Sp p e below T8911 (mkF m 190 (lt14 p0 p1 p2 p3 p4 v5 b5 v7 v8 v9 v10) []) _
      refine XS.iload X8911.here hx rfl (hb hby at_190) rfl ?_
      show Sp p e below T8911 (mkF m 192 (lt14 p0 p1 p2 p3 p4 v5 b5 v7 v8 v9 v10) [(.int v10)]) _
      refine XS.ifNo X8911.here hx rfl (hb hby at_192) rfl ((if0 _ _).trans (teq hc10125).2) ?_
      show Sp p e below T8911 (mkF m 195 (lt14 p0 p1 p2 p3 p4 v5 b5 v7 v8 v9 v10) []) _
      refine XS.iconst X8911.here hx rfl (hb hby at_195) ?_
      show Sp p e below T8911 (mkF m 196 (lt14 p0 p1 p2 p3 p4 v5 b5 v7 v8 v9 v10) [(.int (0 : Int32))]) _
      refine st10126 _ ?_
      show Sp p e below T10126 (mkF m 198 (lt14 p0 p1 p2 p3 p4 v5 b5 v7 v8 v9 v10) [(.ref b10126)]) _
      refine XS.astore X10126.here hx rfl (hb hby at_198) rfl rfl (l' := (lt15 p0 p1 p2 p3 p4 v5 b5 v7 v8 v9 v10 b10126)) rfl ?_
      show Sp p e below T10126 (mkF m 200 (lt15 p0 p1 p2 p3 p4 v5 b5 v7 v8 v9 v10 b10126) []) _
      refine XS.goto X10126.here hx rfl (pc0 := 200) (pc' := 284) rfl (hb hby at_200) (by decide) (by decide) ?_
      show Sp p e below T10126 (mkF m 284 (lt15 p0 p1 p2 p3 p4 v5 b5 v7 v8 v9 v10 b10126) []) _
      refine XS.aload X10126.here hx rfl (hb hby at_284) rfl rfl ?_
      refine XS.aload X10126.here hx rfl (hb hby at_286) rfl rfl ?_
      show Sp p e below T10126 (mkF m 288 (lt15 p0 p1 p2 p3 p4 v5 b5 v7 v8 v9 v10 b10126) [(.ref b10126), (.ref b5)]) _
      refine st10139.trans ?_
      show Sp p e below T10139 (mkF m 291 (lt15 p0 p1 p2 p3 p4 v5 b5 v7 v8 v9 v10 b10126) [.null]) _
      refine XS.astore X10139.here hx rfl (hb hby at_291) rfl rfl (l' := (lt21 p0 p1 p2 p3 p4 v5 b5 v7 v8 v9 v10 b10126)) rfl ?_
      show Sp p e below T10139 (mkF m 293 (lt21 p0 p1 p2 p3 p4 v5 b5 v7 v8 v9 v10 b10126) []) _
      exact kt
    have c10141 := (c8911_5.ext E10126)
    have c10142 := (c8911_10.ext E10126)
    obtain ⟨T10143, h10143, L10143, z10143, X10143, e10143, O10143, N10143, hz_10143, pre10143⟩ : ∃ (T10143 : State) (h10143 : Heap) (L10143 : List Loc) (z10143 : Int32), Stand p l e room_1 s m #[(.int p0), (.int p1), (.int p2), (.int p3), (.int p4)] below meth c T10143 L10143 14 ((10 + sl4074) + sl8911) ∧ T10143.heap = h10143 ∧ Old Z n0 h10143 ∧ Fr n0 L10143 ∧ z10143 = anyM p1 [] ∧ Cm p e below E0 (T10143.setTop (mkF m 344 (lt22 p0 p1 p2 p3 p4 v5 b5 v7 v8 v9 v10 b10126 z10143) [])) := by
      have pre10144 : Cm p e below E0 (T10139.setTop (mkF m 344 (lt22 p0 p1 p2 p3 p4 v5 b5 v7 v8 v9 v10 b10126 (0 : Int32)) [])) := fun t kt => by
        refine pre10140 t ?_
        show Sp p e below T10139 (mkF m 293 (lt21 p0 p1 p2 p3 p4 v5 b5 v7 v8 v9 v10 b10126) []) _
        refine XS.iload X10139.here hx rfl (hb hby at_293) rfl ?_
        show Sp p e below T10139 (mkF m 295 (lt21 p0 p1 p2 p3 p4 v5 b5 v7 v8 v9 v10 b10126) [(.int v10)]) _
        refine XS.ifYes X10139.here hx rfl (pc0 := 295) (pc' := 307) rfl (hb hby at_295) rfl ((if0 _ _).trans (flt (by rw [hc10125] <;> decide : ¬ ((0 : Int32) < v10))).2.2.2) (by decide) (by decide) ?_
        show Sp p e below T10139 (mkF m 307 (lt21 p0 p1 p2 p3 p4 v5 b5 v7 v8 v9 v10 b10126) []) _
        refine XS.iload X10139.here hx rfl (hb hby at_307) rfl ?_
        refine XS.iconst X10139.here hx rfl (hb hby at_309) ?_
        show Sp p e below T10139 (mkF m 310 (lt21 p0 p1 p2 p3 p4 v5 b5 v7 v8 v9 v10 b10126) [(.int (1 : Int32)), (.int v10)]) _
        refine XS.icmpYes X10139.here hx rfl (pc0 := 310) (pc' := 322) rfl (hb hby at_310) rfl (flt (by rw [hc10125] <;> decide : ¬ ((1 : Int32) < v10))).2.2.2 (by decide) (by decide) ?_
        show Sp p e below T10139 (mkF m 322 (lt21 p0 p1 p2 p3 p4 v5 b5 v7 v8 v9 v10 b10126) []) _
        refine XS.iload X10139.here hx rfl (hb hby at_322) rfl ?_
        refine XS.iconst X10139.here hx rfl (hb hby at_324) ?_
        show Sp p e below T10139 (mkF m 325 (lt21 p0 p1 p2 p3 p4 v5 b5 v7 v8 v9 v10 b10126) [(.int (2 : Int32)), (.int v10)]) _
        refine XS.icmpYes X10139.here hx rfl (pc0 := 325) (pc' := 341) rfl (hb hby at_325) rfl (flt (by rw [hc10125] <;> decide : ¬ ((2 : Int32) < v10))).2.2.2 (by decide) (by decide) ?_
        show Sp p e below T10139 (mkF m 341 (lt21 p0 p1 p2 p3 p4 v5 b5 v7 v8 v9 v10 b10126) []) _
        refine XS.iconst X10139.here hx rfl (hb hby at_341) ?_
        refine XS.istore X10139.here hx rfl (hb hby at_342) rfl (l' := (lt22 p0 p1 p2 p3 p4 v5 b5 v7 v8 v9 v10 b10126 (0 : Int32))) rfl ?_
        show Sp p e below T10139 (mkF m 344 (lt22 p0 p1 p2 p3 p4 v5 b5 v7 v8 v9 v10 b10126 (0 : Int32)) []) _
        exact kt
      exact ⟨_, _, _, (0 : Int32), X10139.more (by decide) (by show ((10 + sl4074) + sl8911) ≤ ((10 + sl4074) + sl8911); omega), e10139, O10126, N10139, (by simp [anyM]), pre10144⟩
    obtain ⟨T10145, h10145, L10145, z10145, X10145, e10145, O10145, N10145, hz_10145, pre10145⟩ : ∃ (T10145 : State) (h10145 : Heap) (L10145 : List Loc) (z10145 : Int32), Stand p l e room_1 s m #[(.int p0), (.int p1), (.int p2), (.int p3), (.int p4)] below meth c T10145 L10145 14 ((10 + sl4074) + sl8911) ∧ T10145.heap = h10145 ∧ Old Z n0 h10145 ∧ Fr n0 L10145 ∧ z10145 = anyM p0 [] ∧ Cm p e below E0 (T10145.setTop (mkF m 395 (lt23 p0 p1 p2 p3 p4 v5 b5 v7 v8 v9 v10 b10126 z10143 z10145) [])) := by
      have pre10146 : Cm p e below E0 (T10143.setTop (mkF m 395 (lt23 p0 p1 p2 p3 p4 v5 b5 v7 v8 v9 v10 b10126 z10143 (0 : Int32)) [])) := fun t kt => by
        refine pre10143 t ?_
        show Sp p e below T10143 (mkF m 344 (lt22 p0 p1 p2 p3 p4 v5 b5 v7 v8 v9 v10 b10126 z10143) []) _
        refine XS.iload X10143.here hx rfl (hb hby at_344) rfl ?_
        show Sp p e below T10143 (mkF m 346 (lt22 p0 p1 p2 p3 p4 v5 b5 v7 v8 v9 v10 b10126 z10143) [(.int v10)]) _
        refine XS.ifYes X10143.here hx rfl (pc0 := 346) (pc' := 358) rfl (hb hby at_346) rfl ((if0 _ _).trans (flt (by rw [hc10125] <;> decide : ¬ ((0 : Int32) < v10))).2.2.2) (by decide) (by decide) ?_
        show Sp p e below T10143 (mkF m 358 (lt22 p0 p1 p2 p3 p4 v5 b5 v7 v8 v9 v10 b10126 z10143) []) _
        refine XS.iload X10143.here hx rfl (hb hby at_358) rfl ?_
        refine XS.iconst X10143.here hx rfl (hb hby at_360) ?_
        show Sp p e below T10143 (mkF m 361 (lt22 p0 p1 p2 p3 p4 v5 b5 v7 v8 v9 v10 b10126 z10143) [(.int (1 : Int32)), (.int v10)]) _
        refine XS.icmpYes X10143.here hx rfl (pc0 := 361) (pc' := 373) rfl (hb hby at_361) rfl (flt (by rw [hc10125] <;> decide : ¬ ((1 : Int32) < v10))).2.2.2 (by decide) (by decide) ?_
        show Sp p e below T10143 (mkF m 373 (lt22 p0 p1 p2 p3 p4 v5 b5 v7 v8 v9 v10 b10126 z10143) []) _
        refine XS.iload X10143.here hx rfl (hb hby at_373) rfl ?_
        refine XS.iconst X10143.here hx rfl (hb hby at_375) ?_
        show Sp p e below T10143 (mkF m 376 (lt22 p0 p1 p2 p3 p4 v5 b5 v7 v8 v9 v10 b10126 z10143) [(.int (2 : Int32)), (.int v10)]) _
        refine XS.icmpYes X10143.here hx rfl (pc0 := 376) (pc' := 392) rfl (hb hby at_376) rfl (flt (by rw [hc10125] <;> decide : ¬ ((2 : Int32) < v10))).2.2.2 (by decide) (by decide) ?_
        show Sp p e below T10143 (mkF m 392 (lt22 p0 p1 p2 p3 p4 v5 b5 v7 v8 v9 v10 b10126 z10143) []) _
        refine XS.iconst X10143.here hx rfl (hb hby at_392) ?_
        refine XS.istore X10143.here hx rfl (hb hby at_393) rfl (l' := (lt23 p0 p1 p2 p3 p4 v5 b5 v7 v8 v9 v10 b10126 z10143 (0 : Int32))) rfl ?_
        show Sp p e below T10143 (mkF m 395 (lt23 p0 p1 p2 p3 p4 v5 b5 v7 v8 v9 v10 b10126 z10143 (0 : Int32)) []) _
        exact kt
      exact ⟨_, _, _, (0 : Int32), X10143.more (by decide) (by show ((10 + sl4074) + sl8911) ≤ ((10 + sl4074) + sl8911); omega), e10143, O10143, N10143, (by simp [anyM]), pre10146⟩
    obtain ⟨fs, hr, hrun, hended, hW, hsame⟩ := X10145.leave (v := some (.int (1 : Int32))) (fun h => by rw [Bd.returns] at h; cases h)
    refine ⟨_, _, pre10145 _ ?_, hrun, hended, _, _, rfl, ?_, ⟨_, rfl⟩, hW, hsame.mono (by decide) (by show ((10 + sl4074) + sl8911) ≤ 1600; omega)⟩
    · show Sp p e below T10145 (mkF m 395 (lt23 p0 p1 p2 p3 p4 v5 b5 v7 v8 v9 v10 b10126 z10143 z10145) []) _
      refine XS.iload X10145.here hx rfl (hb hby at_395) rfl ?_
      show Sp p e below T10145 (mkF m 397 (lt23 p0 p1 p2 p3 p4 v5 b5 v7 v8 v9 v10 b10126 z10143 z10145) [(.int z10143)]) _
      refine XS.ifYes X10145.here hx rfl (pc0 := 397) (pc' := 406) rfl (hb hby at_397) rfl ((if0 _ _).trans (teq (hz_10143.trans rfl)).1) (by decide) (by decide) ?_
      show Sp p e below T10145 (mkF m 406 (lt23 p0 p1 p2 p3 p4 v5 b5 v7 v8 v9 v10 b10126 z10143 z10145) []) _
      refine XS.iload X10145.here hx rfl (hb hby at_406) rfl ?_
      show Sp p e below T10145 (mkF m 408 (lt23 p0 p1 p2 p3 p4 v5 b5 v7 v8 v9 v10 b10126 z10143 z10145) [(.int z10145)]) _
      refine XS.ifYes X10145.here hx rfl (pc0 := 408) (pc' := 417) rfl (hb hby at_408) rfl ((if0 _ _).trans (teq (hz_10145.trans rfl)).1) (by decide) (by decide) ?_
      show Sp p e below T10145 (mkF m 417 (lt23 p0 p1 p2 p3 p4 v5 b5 v7 v8 v9 v10 b10126 z10143 z10145) []) _
      refine XS.aconstNull X10145.here hx rfl (hb hby at_417) ?_
      refine XS.astore X10145.here hx rfl (hb hby at_418) rfl rfl (l' := (lt24 p0 p1 p2 p3 p4 v5 b5 v7 v8 v9 v10 b10126 z10143 z10145)) rfl ?_
      show Sp p e below T10145 (mkF m 420 (lt24 p0 p1 p2 p3 p4 v5 b5 v7 v8 v9 v10 b10126 z10143 z10145) []) _
      refine XS.aload X10145.here hx rfl (hb hby at_420) rfl rfl ?_
      refine XS.aload X10145.here hx rfl (hb hby at_422) rfl rfl ?_
      show Sp p e below T10145 (mkF m 424 (lt24 p0 p1 p2 p3 p4 v5 b5 v7 v8 v9 v10 b10126 z10143 z10145) [.null, .null]) _
      refine Jvm.RoadKit.acmp (g := (mkF m 424 (lt24 p0 p1 p2 p3 p4 v5 b5 v7 v8 v9 v10 b10126 z10143 z10145) [.null, .null])) X10145 hx rfl rfl rfl (pc0 := 424) (pc' := 427) (same := true) rfl (hb hby at_424) rfl (decide_eq_true rfl) (by decide) (by decide) ?_
      show Sp p e below T10145 (mkF m 427 (lt24 p0 p1 p2 p3 p4 v5 b5 v7 v8 v9 v10 b10126 z10143 z10145) []) _
      refine XS.iconst X10145.here hx rfl (hb hby at_427) ?_
      show Sp p e below T10145 (mkF m 428 (lt24 p0 p1 p2 p3 p4 v5 b5 v7 v8 v9 v10 b10126 z10143 z10145) [(.int (1 : Int32))]) _
      refine XS.goto X10145.here hx rfl (pc0 := 428) (pc' := 432) rfl (hb hby at_428) (by decide) (by decide) ?_
      show Sp p e below T10145 (mkF m 432 (lt24 p0 p1 p2 p3 p4 v5 b5 v7 v8 v9 v10 b10126 z10143 z10145) [(.int (1 : Int32))]) _
      exact retN X10145 hx (t := .boolean) Bd.returns (by simp) (hb hby at_432) hr
    · show Q0 Z w_1 w_2 p0 p1 p2 p3 p4 h0 n0 _ T10145.heap _
      rw [e10145]
      exact ⟨rfl, N10145, trivial⟩
  · by_cases hc10147 : v10 = (1 : Int32)
    · obtain ⟨T10148, h10148, k10148, X10148, e10148, E10148, A10148, st10148⟩ := newP X8911 hx hZ (hw _ (tk 57 rfl)) e8911 (g := (mkF m 210 (lt14 p0 p1 p2 p3 p4 v5 b5 v7 v8 v9 v10) [(.int (1 : Int32))])) rfl (hb hby at_210) rfl (by decide) (cap := 1) (by decide) (by decide) (by decide) (by show ((10 + sl4074) + sl8911) + 1 ≤ 1600; omega)
      obtain ⟨b10148, g10148⟩ : ∃ z, z = h8911.size := ⟨_, rfl⟩
      rw [← g10148] at A10148 st10148
      have g_b10148 : n0 ≤ b10148 := Nat.le_trans (own_old O8911) (Nat.le_of_eq g10148.symm)
      have ne_b5_b10148 : b5 ≠ b10148 := Nat.ne_of_lt (Nat.lt_of_lt_of_le c8911_0.lt (Nat.le_of_eq g10148.symm))
      have ne_b64_b10148 : b64 ≠ b10148 := Nat.ne_of_lt (Nat.lt_of_lt_of_le c8911_3.lt (Nat.le_of_eq g10148.symm))
      have ne_w_4074_b10148 : w_4074 ≠ b10148 := Nat.ne_of_lt (Nat.lt_of_lt_of_le c8911_7.lt (Nat.le_of_eq g10148.symm))
      have ne_b67_b10148 : b67 ≠ b10148 := Nat.ne_of_lt (Nat.lt_of_lt_of_le c8911_8.lt (Nat.le_of_eq g10148.symm))
      have ne_w_8911_b10148 : w_8911 ≠ b10148 := Nat.ne_of_lt (Nat.lt_of_lt_of_le c8911_12.lt (Nat.le_of_eq g10148.symm))
      have O10148 : Old Z n0 h10148 := O8911.ext E10148
      have V_b10148 : Arv Z h10148 b10148 k10148 .int (1 : Int32) [(.int (0 : Int32))] (.int (0 : Int32)) := (Arv.new A10148 (by decide)).pad (pad_rep [] (.int (0 : Int32)) 1)
      obtain ⟨cl10149, Ar10149, qa10149, Sa10149, Ma10149, Ha10149, Ga10149⟩ := id V_b10148
      have hin10149 : ¬ ((0 : Int32) < 0 ∨ cl10149.slots.size ≤ ((0 : Int32)).toNatClampNeg) := by exact inb_of Sa10149 ⟨by decide, by decide⟩
      obtain ⟨T10150, h10150, X10150, e10150, W10150, st10150⟩ := stI X10148 hx hZ e10148 Ar10149 (j := (0 : Int32)) hin10149 (g := (mkF m 219 (lt14 p0 p1 p2 p3 p4 v5 b5 v7 v8 v9 v10) [(.int (v5 + v7)), (.int (0 : Int32)), (.ref b10148), (.ref b10148)])) rfl rfl (hb hby at_219)
      have V_b10148_10150 : Arv Z h10150 b10148 k10148 .int (1 : Int32) [(.int (v5 + v7))] (.int (0 : Int32)) := Arv.set Ar10149 qa10149 Sa10149 Ma10149 Ha10149 Ga10149 rfl W10150 0 rfl (Nat.le_of_ble_eq_true rfl)
      have O10150 : Old Z n0 h10150 := O10148.wr W10150 g_b10148
      have N10150 := Fr.snoc X10150 N8911 g_b10148
      have c10172 := ((c8911_0.ext E10148).wr W10150)
      have c10173 := ((c8911_2.ext E10148).other W10150 (Or.inl ne_b5_b10148))
      have c10174 := ((c8911_1.ext E10148).other W10150 (Or.inl ne_b5_b10148))
      have c10175 := ((c8911_8.ext E10148).wr W10150)
      have c10176 := ((c8911_11.ext E10148).other W10150 (Or.inl ne_b67_b10148))
      have c10177 := ((c8911_9.ext E10148).other W10150 (Or.inl ne_b67_b10148))
      have c10178 := ((c8911_12.ext E10148).other W10150 ne_w_8911_b10148)
      have c10179 := ((c8911_3.ext E10148).wr W10150)
      have c10180 := ((c8911_6.ext E10148).other W10150 (Or.inl ne_b64_b10148))
      have c10181 := ((c8911_4.ext E10148).other W10150 (Or.inl ne_b64_b10148))
      have c10182 := ((c8911_7.ext E10148).other W10150 ne_w_4074_b10148)
      obtain ⟨cq10183, kq10183, q10183a, q10183b, q10183c⟩ := isOf hZ e10150 c10172
      obtain ⟨_, _, ⟨T10183, L10183, k10183, n10183⟩, -, X10183, ⟨Lc10183, hQ10183, l10183, y10183, z10183⟩, st10183⟩ := X10150.virtualBack hx (y := Y31) (z := Y31) hown (mvT hZ (hw _ (tk 58 rfl))) (mvT hZ (hw _ (tk 59 rfl))) (notFace_of_selects (args := #[]) (mvT hZ (hw _ (tk 61 rfl)))) (mvT hZ (hw _ (tk 61 rfl))) (mvT hZ (hw _ (tk 60 rfl))) (by decide) (backOf (W := 0) (rm10x2 l Z a0 hw hv [] w_1 w_2 hS0 b5 b10148 b67 w_8911 b64 w_4074 u_8911 kk8911 n_8911 F_8911 u_4074 kk4074 n_4074 F_4074 k10148 (v5 + v7) h10150 n0 O10150 g_b5 g_b67 g_w_8911 g_b64 g_w_4074 g_b10148 c10172 c10173 c10174 c10175 c10176 c10177 c10178 c10179 c10180 c10181 c10182 V_b10148_10150 ne_b5_b67 ne_b5_w_8911 ne_b5_b64 ne_b5_w_4074 ne_b5_b10148 ne_b67_w_8911 (Ne.symm Fx63_19) ne_b67_w_4074 ne_b67_b10148 (Ne.symm ne_b64_w_8911) (Ne.symm ne_w_4074_w_8911) ne_w_8911_b10148 ne_b64_w_4074 ne_b64_b10148 ne_w_4074_b10148 (own_cnn hB (r_v7)) (own_cwn hB (r_v7)) (fun z => by have z := Int32.lt_iff_toInt_lt.mp z; omega) (fun z => by have z := Int32.lt_iff_toInt_lt.mp z; omega)) hZ (hw _ (tk 62 rfl)) (hw _ (tk 2 rfl)) (by decide) (by decide)) q10183a q10183c (g := (mkF m 288 (lt15 p0 p1 p2 p3 p4 v5 b5 v7 v8 v9 v10 b10148) [(.ref b10148), (.ref b5)])) rfl (by rw [hml]; rfl) (Steps.refl _) (argsL := [(.ref b10148)]) (rest := []) (lenOf pd_5 rfl) rfl (by show 2 * 0 + _ ≤ _; exact Nat.le_of_eq rfl) (hb hby at_288) (fun _ _ => ⟨rfl, e10150, (by decide : 14 + 0 ≤ _), (by show ((10 + sl4074) + (sl8911 + 1)) + 0 ≤ 1600; omega)⟩)
      dsimp only [Pt.U, Pt.locs, Pt.cells, Pt.slots] at X10183 l10183 y10183 z10183 st10183 hQ10183
      subst l10183 y10183 z10183
      obtain ⟨rv10183, N10183q, e10183⟩ := hQ10183
      rw [show (sp10x2 w_1 w_2 u_8911 F_8911 u_4074 F_4074 (v5 + v7)) = (anL w_1 w_2 p0 p1 [v7] .null) from own_ans1 hB hI_4074 hI_8911 (r_v7)] at rv10183
      subst rv10183
      have N10183 := Fr.app N10150 N10183q
      have pre10184 : Cm p e below E0 (T10183.setTop (mkF m 293 (lt27 p0 p1 p2 p3 p4 v5 b5 v7 v8 v9 v10 b10148 (anL w_1 w_2 p0 p1 [v7] .null)) [])) := fun t kt => by
        refine pre10124 t ?_
        show Sp p e below T8911 (mkF m 190 (lt14 p0 p1 p2 p3 p4 v5 b5 v7 v8 v9 v10) []) _
        refine XS.iload X8911.here hx rfl (hb hby at_190) rfl ?_
        show Sp p e below T8911 (mkF m 192 (lt14 p0 p1 p2 p3 p4 v5 b5 v7 v8 v9 v10) [(.int v10)]) _
        refine XS.ifYes X8911.here hx rfl (pc0 := 192) (pc' := 203) rfl (hb hby at_192) rfl ((if0 _ _).trans (feq hc10125).2) (by decide) (by decide) ?_
        show Sp p e below T8911 (mkF m 203 (lt14 p0 p1 p2 p3 p4 v5 b5 v7 v8 v9 v10) []) _
        refine XS.iload X8911.here hx rfl (hb hby at_203) rfl ?_
        refine XS.iconst X8911.here hx rfl (hb hby at_205) ?_
        show Sp p e below T8911 (mkF m 206 (lt14 p0 p1 p2 p3 p4 v5 b5 v7 v8 v9 v10) [(.int (1 : Int32)), (.int v10)]) _
        refine XS.icmpNo X8911.here hx rfl (hb hby at_206) rfl (teq hc10147).2 ?_
        show Sp p e below T8911 (mkF m 209 (lt14 p0 p1 p2 p3 p4 v5 b5 v7 v8 v9 v10) []) _
        refine XS.iconst X8911.here hx rfl (hb hby at_209) ?_
        show Sp p e below T8911 (mkF m 210 (lt14 p0 p1 p2 p3 p4 v5 b5 v7 v8 v9 v10) [(.int (1 : Int32))]) _
        refine st10148 _ ?_
        show Sp p e below T10148 (mkF m 212 (lt14 p0 p1 p2 p3 p4 v5 b5 v7 v8 v9 v10) [(.ref b10148)]) _
        refine XS.dup X10148.here hx rfl (hb hby at_212) rfl rfl ?_
        refine XS.iconst X10148.here hx rfl (hb hby at_213) ?_
        show Sp p e below T10148 (mkF m 214 (lt14 p0 p1 p2 p3 p4 v5 b5 v7 v8 v9 v10) [(.int (0 : Int32)), (.ref b10148), (.ref b10148)]) _
        refine XS.iload X10148.here hx rfl (hb hby at_214) rfl ?_
        refine XS.iload X10148.here hx rfl (hb hby at_216) rfl ?_
        show Sp p e below T10148 (mkF m 218 (lt14 p0 p1 p2 p3 p4 v5 b5 v7 v8 v9 v10) [(.int v7), (.int v5), (.int (0 : Int32)), (.ref b10148), (.ref b10148)]) _
        refine XS.iadd X10148.here hx rfl (hb hby at_218) rfl ?_
        show Sp p e below T10148 (mkF m 219 (lt14 p0 p1 p2 p3 p4 v5 b5 v7 v8 v9 v10) [(.int (v5 + v7)), (.int (0 : Int32)), (.ref b10148), (.ref b10148)]) _
        refine st10150 _ ?_
        show Sp p e below T10150 (mkF m 220 (lt14 p0 p1 p2 p3 p4 v5 b5 v7 v8 v9 v10) [(.ref b10148)]) _
        refine XS.astore X10150.here hx rfl (hb hby at_220) rfl rfl (l' := (lt15 p0 p1 p2 p3 p4 v5 b5 v7 v8 v9 v10 b10148)) rfl ?_
        show Sp p e below T10150 (mkF m 222 (lt15 p0 p1 p2 p3 p4 v5 b5 v7 v8 v9 v10 b10148) []) _
        refine XS.goto X10150.here hx rfl (pc0 := 222) (pc' := 284) rfl (hb hby at_222) (by decide) (by decide) ?_
        show Sp p e below T10150 (mkF m 284 (lt15 p0 p1 p2 p3 p4 v5 b5 v7 v8 v9 v10 b10148) []) _
        refine XS.aload X10150.here hx rfl (hb hby at_284) rfl rfl ?_
        refine XS.aload X10150.here hx rfl (hb hby at_286) rfl rfl ?_
        show Sp p e below T10150 (mkF m 288 (lt15 p0 p1 p2 p3 p4 v5 b5 v7 v8 v9 v10 b10148) [(.ref b10148), (.ref b5)]) _
        refine st10183.trans ?_
        show Sp p e below T10183 (mkF m 291 (lt15 p0 p1 p2 p3 p4 v5 b5 v7 v8 v9 v10 b10148) [(anL w_1 w_2 p0 p1 [v7] .null)]) _
        refine XS.astoreS X10183.here hx rfl (hb hby at_291) rfl (anL_ref _ _ _ _ _ rfl) (XT.cat1 (anL_ref _ _ _ _ _ rfl)) rfl (Or.inl rfl) ?_
        show Sp p e below T10183 (mkF m 293 (lt27 p0 p1 p2 p3 p4 v5 b5 v7 v8 v9 v10 b10148 (anL w_1 w_2 p0 p1 [v7] .null)) []) _
        exact kt
      have c10185 := ((c8911_5.ext E10148).other W10150 (Or.inl ne_b64_b10148))
      have c10186 := ((c8911_10.ext E10148).other W10150 (Or.inl ne_b67_b10148))
      obtain ⟨T10187, h10187, L10187, z10187, X10187, e10187, O10187, N10187, hz_10187, pre10187⟩ : ∃ (T10187 : State) (h10187 : Heap) (L10187 : List Loc) (z10187 : Int32), Stand p l e room_1 s m #[(.int p0), (.int p1), (.int p2), (.int p3), (.int p4)] below meth c T10187 L10187 14 ((10 + sl4074) + (sl8911 + 1)) ∧ T10187.heap = h10187 ∧ Old Z n0 h10187 ∧ Fr n0 L10187 ∧ z10187 = anyM p1 [v7] ∧ Cm p e below E0 (T10187.setTop (mkF m 344 (lt28 p0 p1 p2 p3 p4 v5 b5 v7 v8 v9 v10 b10148 (anL w_1 w_2 p0 p1 [v7] .null) z10187) [])) := by
        obtain ⟨_, _, ⟨T10192, L10192, k10192, n10192⟩, -, X10192, ⟨Lc10192, hQ10192, l10192, y10192, z10192⟩, st10192⟩ := Jvm.LawKit.callS X10183 hx (y := Y40) hown (mvT hZ (hw _ (tk 68 rfl))) (mvT hZ (hw _ (tk 69 rfl))) (mvT hZ (hw _ (tk 70 rfl))) (mvT hZ (hw _ (tk 71 rfl))) (by decide) (backOf (W := 0) (rm12 l Z a0 hw hv [] w_1 w_2 hS0 p1 v7 h10150 n0 O10150) hZ (hw _ (tk 71 rfl)) (hw _ (tk 70 rfl)) (by decide) (by decide)) (g := (mkF m 301 (lt27 p0 p1 p2 p3 p4 v5 b5 v7 v8 v9 v10 b10148 (anL w_1 w_2 p0 p1 [v7] .null)) [(.int v7), (.int p1)])) rfl (by rw [hml]; rfl) (argsL := [(.int p1), (.int v7)]) (rest := []) (lenOf pd_7 rfl) rfl (by show 2 * 0 + _ ≤ _; exact Nat.le_of_eq rfl) (hb hby at_301) (fun _ _ => ⟨rfl, e10183, (by decide : 14 + 0 ≤ _), (by show ((10 + sl4074) + (sl8911 + 1)) + 0 ≤ 1600; omega)⟩)
        dsimp only [Pt.U, Pt.locs, Pt.cells, Pt.slots] at X10192 l10192 y10192 z10192 st10192 hQ10192
        subst l10192 y10192 z10192
        obtain ⟨rv10192, N10192q, e10192⟩ := hQ10192
        subst rv10192
        have N10192 := Fr.app N10183 N10192q
        have pre10193 : Cm p e below E0 (T10192.setTop (mkF m 304 (lt27 p0 p1 p2 p3 p4 v5 b5 v7 v8 v9 v10 b10148 (anL w_1 w_2 p0 p1 [v7] .null)) [(.int (sp12 p1 v7))])) := fun t kt => by
          refine pre10184 t ?_
          show Sp p e below T10183 (mkF m 293 (lt27 p0 p1 p2 p3 p4 v5 b5 v7 v8 v9 v10 b10148 (anL w_1 w_2 p0 p1 [v7] .null)) []) _
          refine XS.iload X10183.here hx rfl (hb hby at_293) rfl ?_
          show Sp p e below T10183 (mkF m 295 (lt27 p0 p1 p2 p3 p4 v5 b5 v7 v8 v9 v10 b10148 (anL w_1 w_2 p0 p1 [v7] .null)) [(.int v10)]) _
          refine XS.ifNo X10183.here hx rfl (hb hby at_295) rfl ((if0 _ _).trans (tlt (by rw [hc10147] <;> decide : ((0 : Int32) < v10))).2.2.2) ?_
          show Sp p e below T10183 (mkF m 298 (lt27 p0 p1 p2 p3 p4 v5 b5 v7 v8 v9 v10 b10148 (anL w_1 w_2 p0 p1 [v7] .null)) []) _
          refine XS.iloadN X10183.here hx rfl (hb hby at_298) rfl ?_
          refine XS.iload X10183.here hx rfl (hb hby at_299) rfl ?_
          show Sp p e below T10183 (mkF m 301 (lt27 p0 p1 p2 p3 p4 v5 b5 v7 v8 v9 v10 b10148 (anL w_1 w_2 p0 p1 [v7] .null)) [(.int v7), (.int p1)]) _
          refine st10192 _ ?_
          show Sp p e below T10192 (mkF m 304 (lt27 p0 p1 p2 p3 p4 v5 b5 v7 v8 v9 v10 b10148 (anL w_1 w_2 p0 p1 [v7] .null)) [(.int (sp12 p1 v7))]) _
          exact kt
        by_cases hc10194 : (sp12 p1 v7) = (0 : Int32)
        · have pre10195 : Cm p e below E0 (T10192.setTop (mkF m 344 (lt28 p0 p1 p2 p3 p4 v5 b5 v7 v8 v9 v10 b10148 (anL w_1 w_2 p0 p1 [v7] .null) (0 : Int32)) [])) := fun t kt => by
            refine pre10193 t ?_
            show Sp p e below T10192 (mkF m 304 (lt27 p0 p1 p2 p3 p4 v5 b5 v7 v8 v9 v10 b10148 (anL w_1 w_2 p0 p1 [v7] .null)) [(.int (sp12 p1 v7))]) _
            refine XS.ifNo X10192.here hx rfl (hb hby at_304) rfl ((if0 _ _).trans (teq hc10194).2) ?_
            show Sp p e below T10192 (mkF m 307 (lt27 p0 p1 p2 p3 p4 v5 b5 v7 v8 v9 v10 b10148 (anL w_1 w_2 p0 p1 [v7] .null)) []) _
            refine XS.iload X10192.here hx rfl (hb hby at_307) rfl ?_
            refine XS.iconst X10192.here hx rfl (hb hby at_309) ?_
            show Sp p e below T10192 (mkF m 310 (lt27 p0 p1 p2 p3 p4 v5 b5 v7 v8 v9 v10 b10148 (anL w_1 w_2 p0 p1 [v7] .null)) [(.int (1 : Int32)), (.int v10)]) _
            refine XS.icmpYes X10192.here hx rfl (pc0 := 310) (pc' := 322) rfl (hb hby at_310) rfl (flt (by rw [hc10147] <;> decide : ¬ ((1 : Int32) < v10))).2.2.2 (by decide) (by decide) ?_
            show Sp p e below T10192 (mkF m 322 (lt27 p0 p1 p2 p3 p4 v5 b5 v7 v8 v9 v10 b10148 (anL w_1 w_2 p0 p1 [v7] .null)) []) _
            refine XS.iload X10192.here hx rfl (hb hby at_322) rfl ?_
            refine XS.iconst X10192.here hx rfl (hb hby at_324) ?_
            show Sp p e below T10192 (mkF m 325 (lt27 p0 p1 p2 p3 p4 v5 b5 v7 v8 v9 v10 b10148 (anL w_1 w_2 p0 p1 [v7] .null)) [(.int (2 : Int32)), (.int v10)]) _
            refine XS.icmpYes X10192.here hx rfl (pc0 := 325) (pc' := 341) rfl (hb hby at_325) rfl (flt (by rw [hc10147] <;> decide : ¬ ((2 : Int32) < v10))).2.2.2 (by decide) (by decide) ?_
            show Sp p e below T10192 (mkF m 341 (lt27 p0 p1 p2 p3 p4 v5 b5 v7 v8 v9 v10 b10148 (anL w_1 w_2 p0 p1 [v7] .null)) []) _
            refine XS.iconst X10192.here hx rfl (hb hby at_341) ?_
            refine XS.istore X10192.here hx rfl (hb hby at_342) rfl (l' := (lt28 p0 p1 p2 p3 p4 v5 b5 v7 v8 v9 v10 b10148 (anL w_1 w_2 p0 p1 [v7] .null) (0 : Int32))) rfl ?_
            show Sp p e below T10192 (mkF m 344 (lt28 p0 p1 p2 p3 p4 v5 b5 v7 v8 v9 v10 b10148 (anL w_1 w_2 p0 p1 [v7] .null) (0 : Int32)) []) _
            exact kt
          exact ⟨_, _, _, (0 : Int32), X10192.more (by decide) (by show ((10 + sl4074) + (sl8911 + 1)) ≤ ((10 + sl4074) + (sl8911 + 1)); omega), e10192, O10150, N10192, (by simp [anyM, hc10194]), pre10195⟩
        · have pre10196 : Cm p e below E0 (T10192.setTop (mkF m 344 (lt28 p0 p1 p2 p3 p4 v5 b5 v7 v8 v9 v10 b10148 (anL w_1 w_2 p0 p1 [v7] .null) (1 : Int32)) [])) := fun t kt => by
            refine pre10193 t ?_
            show Sp p e below T10192 (mkF m 304 (lt27 p0 p1 p2 p3 p4 v5 b5 v7 v8 v9 v10 b10148 (anL w_1 w_2 p0 p1 [v7] .null)) [(.int (sp12 p1 v7))]) _
            refine XS.ifYes X10192.here hx rfl (pc0 := 304) (pc' := 337) rfl (hb hby at_304) rfl ((if0 _ _).trans (feq hc10194).2) (by decide) (by decide) ?_
            show Sp p e below T10192 (mkF m 337 (lt27 p0 p1 p2 p3 p4 v5 b5 v7 v8 v9 v10 b10148 (anL w_1 w_2 p0 p1 [v7] .null)) []) _
            refine XS.iconst X10192.here hx rfl (hb hby at_337) ?_
            show Sp p e below T10192 (mkF m 338 (lt27 p0 p1 p2 p3 p4 v5 b5 v7 v8 v9 v10 b10148 (anL w_1 w_2 p0 p1 [v7] .null)) [(.int (1 : Int32))]) _
            refine XS.goto X10192.here hx rfl (pc0 := 338) (pc' := 342) rfl (hb hby at_338) (by decide) (by decide) ?_
            show Sp p e below T10192 (mkF m 342 (lt27 p0 p1 p2 p3 p4 v5 b5 v7 v8 v9 v10 b10148 (anL w_1 w_2 p0 p1 [v7] .null)) [(.int (1 : Int32))]) _
            refine XS.istore X10192.here hx rfl (hb hby at_342) rfl (l' := (lt28 p0 p1 p2 p3 p4 v5 b5 v7 v8 v9 v10 b10148 (anL w_1 w_2 p0 p1 [v7] .null) (1 : Int32))) rfl ?_
            show Sp p e below T10192 (mkF m 344 (lt28 p0 p1 p2 p3 p4 v5 b5 v7 v8 v9 v10 b10148 (anL w_1 w_2 p0 p1 [v7] .null) (1 : Int32)) []) _
            exact kt
          exact ⟨_, _, _, (1 : Int32), X10192.more (by decide) (by show ((10 + sl4074) + (sl8911 + 1)) ≤ ((10 + sl4074) + (sl8911 + 1)); omega), e10192, O10150, N10192, (by simp [anyM, hc10194]), pre10196⟩
      obtain ⟨T10197, h10197, L10197, z10197, X10197, e10197, O10197, N10197, hz_10197, pre10197⟩ : ∃ (T10197 : State) (h10197 : Heap) (L10197 : List Loc) (z10197 : Int32), Stand p l e room_1 s m #[(.int p0), (.int p1), (.int p2), (.int p3), (.int p4)] below meth c T10197 L10197 14 ((10 + sl4074) + (sl8911 + 1)) ∧ T10197.heap = h10197 ∧ Old Z n0 h10197 ∧ Fr n0 L10197 ∧ z10197 = anyM p0 [v7] ∧ Cm p e below E0 (T10197.setTop (mkF m 395 (lt29 p0 p1 p2 p3 p4 v5 b5 v7 v8 v9 v10 b10148 (anL w_1 w_2 p0 p1 [v7] .null) z10187 z10197) [])) := by
        obtain ⟨_, _, ⟨T10198, L10198, k10198, n10198⟩, -, X10198, ⟨Lc10198, hQ10198, l10198, y10198, z10198⟩, st10198⟩ := Jvm.LawKit.callS X10187 hx (y := Y40) hown (mvT hZ (hw _ (tk 68 rfl))) (mvT hZ (hw _ (tk 69 rfl))) (mvT hZ (hw _ (tk 70 rfl))) (mvT hZ (hw _ (tk 71 rfl))) (by decide) (backOf (W := 0) (rm12 l Z a0 hw hv [] w_1 w_2 hS0 p0 v7 h10187 n0 O10187) hZ (hw _ (tk 71 rfl)) (hw _ (tk 70 rfl)) (by decide) (by decide)) (g := (mkF m 352 (lt28 p0 p1 p2 p3 p4 v5 b5 v7 v8 v9 v10 b10148 (anL w_1 w_2 p0 p1 [v7] .null) z10187) [(.int v7), (.int p0)])) rfl (by rw [hml]; rfl) (argsL := [(.int p0), (.int v7)]) (rest := []) (lenOf pd_7 rfl) rfl (by show 2 * 0 + _ ≤ _; exact Nat.le_of_eq rfl) (hb hby at_352) (fun _ _ => ⟨rfl, e10187, (by decide : 14 + 0 ≤ _), (by show ((10 + sl4074) + (sl8911 + 1)) + 0 ≤ 1600; omega)⟩)
        dsimp only [Pt.U, Pt.locs, Pt.cells, Pt.slots] at X10198 l10198 y10198 z10198 st10198 hQ10198
        subst l10198 y10198 z10198
        obtain ⟨rv10198, N10198q, e10198⟩ := hQ10198
        subst rv10198
        have N10198 := Fr.app N10187 N10198q
        have pre10199 : Cm p e below E0 (T10198.setTop (mkF m 355 (lt28 p0 p1 p2 p3 p4 v5 b5 v7 v8 v9 v10 b10148 (anL w_1 w_2 p0 p1 [v7] .null) z10187) [(.int (sp12 p0 v7))])) := fun t kt => by
          refine pre10187 t ?_
          show Sp p e below T10187 (mkF m 344 (lt28 p0 p1 p2 p3 p4 v5 b5 v7 v8 v9 v10 b10148 (anL w_1 w_2 p0 p1 [v7] .null) z10187) []) _
          refine XS.iload X10187.here hx rfl (hb hby at_344) rfl ?_
          show Sp p e below T10187 (mkF m 346 (lt28 p0 p1 p2 p3 p4 v5 b5 v7 v8 v9 v10 b10148 (anL w_1 w_2 p0 p1 [v7] .null) z10187) [(.int v10)]) _
          refine XS.ifNo X10187.here hx rfl (hb hby at_346) rfl ((if0 _ _).trans (tlt (by rw [hc10147] <;> decide : ((0 : Int32) < v10))).2.2.2) ?_
          show Sp p e below T10187 (mkF m 349 (lt28 p0 p1 p2 p3 p4 v5 b5 v7 v8 v9 v10 b10148 (anL w_1 w_2 p0 p1 [v7] .null) z10187) []) _
          refine XS.iloadN X10187.here hx rfl (hb hby at_349) rfl ?_
          refine XS.iload X10187.here hx rfl (hb hby at_350) rfl ?_
          show Sp p e below T10187 (mkF m 352 (lt28 p0 p1 p2 p3 p4 v5 b5 v7 v8 v9 v10 b10148 (anL w_1 w_2 p0 p1 [v7] .null) z10187) [(.int v7), (.int p0)]) _
          refine st10198 _ ?_
          show Sp p e below T10198 (mkF m 355 (lt28 p0 p1 p2 p3 p4 v5 b5 v7 v8 v9 v10 b10148 (anL w_1 w_2 p0 p1 [v7] .null) z10187) [(.int (sp12 p0 v7))]) _
          exact kt
        by_cases hc10200 : (sp12 p0 v7) = (0 : Int32)
        · have pre10201 : Cm p e below E0 (T10198.setTop (mkF m 395 (lt29 p0 p1 p2 p3 p4 v5 b5 v7 v8 v9 v10 b10148 (anL w_1 w_2 p0 p1 [v7] .null) z10187 (0 : Int32)) [])) := fun t kt => by
            refine pre10199 t ?_
            show Sp p e below T10198 (mkF m 355 (lt28 p0 p1 p2 p3 p4 v5 b5 v7 v8 v9 v10 b10148 (anL w_1 w_2 p0 p1 [v7] .null) z10187) [(.int (sp12 p0 v7))]) _
            refine XS.ifNo X10198.here hx rfl (hb hby at_355) rfl ((if0 _ _).trans (teq hc10200).2) ?_
            show Sp p e below T10198 (mkF m 358 (lt28 p0 p1 p2 p3 p4 v5 b5 v7 v8 v9 v10 b10148 (anL w_1 w_2 p0 p1 [v7] .null) z10187) []) _
            refine XS.iload X10198.here hx rfl (hb hby at_358) rfl ?_
            refine XS.iconst X10198.here hx rfl (hb hby at_360) ?_
            show Sp p e below T10198 (mkF m 361 (lt28 p0 p1 p2 p3 p4 v5 b5 v7 v8 v9 v10 b10148 (anL w_1 w_2 p0 p1 [v7] .null) z10187) [(.int (1 : Int32)), (.int v10)]) _
            refine XS.icmpYes X10198.here hx rfl (pc0 := 361) (pc' := 373) rfl (hb hby at_361) rfl (flt (by rw [hc10147] <;> decide : ¬ ((1 : Int32) < v10))).2.2.2 (by decide) (by decide) ?_
            show Sp p e below T10198 (mkF m 373 (lt28 p0 p1 p2 p3 p4 v5 b5 v7 v8 v9 v10 b10148 (anL w_1 w_2 p0 p1 [v7] .null) z10187) []) _
            refine XS.iload X10198.here hx rfl (hb hby at_373) rfl ?_
            refine XS.iconst X10198.here hx rfl (hb hby at_375) ?_
            show Sp p e below T10198 (mkF m 376 (lt28 p0 p1 p2 p3 p4 v5 b5 v7 v8 v9 v10 b10148 (anL w_1 w_2 p0 p1 [v7] .null) z10187) [(.int (2 : Int32)), (.int v10)]) _
            refine XS.icmpYes X10198.here hx rfl (pc0 := 376) (pc' := 392) rfl (hb hby at_376) rfl (flt (by rw [hc10147] <;> decide : ¬ ((2 : Int32) < v10))).2.2.2 (by decide) (by decide) ?_
            show Sp p e below T10198 (mkF m 392 (lt28 p0 p1 p2 p3 p4 v5 b5 v7 v8 v9 v10 b10148 (anL w_1 w_2 p0 p1 [v7] .null) z10187) []) _
            refine XS.iconst X10198.here hx rfl (hb hby at_392) ?_
            refine XS.istore X10198.here hx rfl (hb hby at_393) rfl (l' := (lt29 p0 p1 p2 p3 p4 v5 b5 v7 v8 v9 v10 b10148 (anL w_1 w_2 p0 p1 [v7] .null) z10187 (0 : Int32))) rfl ?_
            show Sp p e below T10198 (mkF m 395 (lt29 p0 p1 p2 p3 p4 v5 b5 v7 v8 v9 v10 b10148 (anL w_1 w_2 p0 p1 [v7] .null) z10187 (0 : Int32)) []) _
            exact kt
          exact ⟨_, _, _, (0 : Int32), X10198.more (by decide) (by show ((10 + sl4074) + (sl8911 + 1)) ≤ ((10 + sl4074) + (sl8911 + 1)); omega), e10198, O10187, N10198, (by simp [anyM, hc10200]), pre10201⟩
        · have pre10202 : Cm p e below E0 (T10198.setTop (mkF m 395 (lt29 p0 p1 p2 p3 p4 v5 b5 v7 v8 v9 v10 b10148 (anL w_1 w_2 p0 p1 [v7] .null) z10187 (1 : Int32)) [])) := fun t kt => by
            refine pre10199 t ?_
            show Sp p e below T10198 (mkF m 355 (lt28 p0 p1 p2 p3 p4 v5 b5 v7 v8 v9 v10 b10148 (anL w_1 w_2 p0 p1 [v7] .null) z10187) [(.int (sp12 p0 v7))]) _
            refine XS.ifYes X10198.here hx rfl (pc0 := 355) (pc' := 388) rfl (hb hby at_355) rfl ((if0 _ _).trans (feq hc10200).2) (by decide) (by decide) ?_
            show Sp p e below T10198 (mkF m 388 (lt28 p0 p1 p2 p3 p4 v5 b5 v7 v8 v9 v10 b10148 (anL w_1 w_2 p0 p1 [v7] .null) z10187) []) _
            refine XS.iconst X10198.here hx rfl (hb hby at_388) ?_
            show Sp p e below T10198 (mkF m 389 (lt28 p0 p1 p2 p3 p4 v5 b5 v7 v8 v9 v10 b10148 (anL w_1 w_2 p0 p1 [v7] .null) z10187) [(.int (1 : Int32))]) _
            refine XS.goto X10198.here hx rfl (pc0 := 389) (pc' := 393) rfl (hb hby at_389) (by decide) (by decide) ?_
            show Sp p e below T10198 (mkF m 393 (lt28 p0 p1 p2 p3 p4 v5 b5 v7 v8 v9 v10 b10148 (anL w_1 w_2 p0 p1 [v7] .null) z10187) [(.int (1 : Int32))]) _
            refine XS.istore X10198.here hx rfl (hb hby at_393) rfl (l' := (lt29 p0 p1 p2 p3 p4 v5 b5 v7 v8 v9 v10 b10148 (anL w_1 w_2 p0 p1 [v7] .null) z10187 (1 : Int32))) rfl ?_
            show Sp p e below T10198 (mkF m 395 (lt29 p0 p1 p2 p3 p4 v5 b5 v7 v8 v9 v10 b10148 (anL w_1 w_2 p0 p1 [v7] .null) z10187 (1 : Int32)) []) _
            exact kt
          exact ⟨_, _, _, (1 : Int32), X10198.more (by decide) (by show ((10 + sl4074) + (sl8911 + 1)) ≤ ((10 + sl4074) + (sl8911 + 1)); omega), e10198, O10187, N10198, (by simp [anyM, hc10200]), pre10202⟩
      have pre10203 : Cm p e below E0 (T10197.setTop (mkF m 397 (lt29 p0 p1 p2 p3 p4 v5 b5 v7 v8 v9 v10 b10148 (anL w_1 w_2 p0 p1 [v7] .null) z10187 z10197) [(.int z10187)])) := fun t kt => by
        refine pre10197 t ?_
        show Sp p e below T10197 (mkF m 395 (lt29 p0 p1 p2 p3 p4 v5 b5 v7 v8 v9 v10 b10148 (anL w_1 w_2 p0 p1 [v7] .null) z10187 z10197) []) _
        refine XS.iload X10197.here hx rfl (hb hby at_395) rfl ?_
        show Sp p e below T10197 (mkF m 397 (lt29 p0 p1 p2 p3 p4 v5 b5 v7 v8 v9 v10 b10148 (anL w_1 w_2 p0 p1 [v7] .null) z10187 z10197) [(.int z10187)]) _
        exact kt
      by_cases hc10204 : z10187 = (0 : Int32)
      · have pre10205 : Cm p e below E0 (T10197.setTop (mkF m 408 (lt29 p0 p1 p2 p3 p4 v5 b5 v7 v8 v9 v10 b10148 (anL w_1 w_2 p0 p1 [v7] .null) z10187 z10197) [(.int z10197)])) := fun t kt => by
          refine pre10203 t ?_
          show Sp p e below T10197 (mkF m 397 (lt29 p0 p1 p2 p3 p4 v5 b5 v7 v8 v9 v10 b10148 (anL w_1 w_2 p0 p1 [v7] .null) z10187 z10197) [(.int z10187)]) _
          refine XS.ifYes X10197.here hx rfl (pc0 := 397) (pc' := 406) rfl (hb hby at_397) rfl ((if0 _ _).trans (teq hc10204).1) (by decide) (by decide) ?_
          show Sp p e below T10197 (mkF m 406 (lt29 p0 p1 p2 p3 p4 v5 b5 v7 v8 v9 v10 b10148 (anL w_1 w_2 p0 p1 [v7] .null) z10187 z10197) []) _
          refine XS.iload X10197.here hx rfl (hb hby at_406) rfl ?_
          show Sp p e below T10197 (mkF m 408 (lt29 p0 p1 p2 p3 p4 v5 b5 v7 v8 v9 v10 b10148 (anL w_1 w_2 p0 p1 [v7] .null) z10187 z10197) [(.int z10197)]) _
          exact kt
        by_cases hc10206 : z10197 = (0 : Int32)
        · obtain ⟨fs, hr, hrun, hended, hW, hsame⟩ := X10197.leave (v := some (.int (1 : Int32))) (fun h => by rw [Bd.returns] at h; cases h)
          refine ⟨_, _, pre10205 _ ?_, hrun, hended, _, _, rfl, ?_, ⟨_, rfl⟩, hW, hsame.mono (by decide) (by show ((10 + sl4074) + (sl8911 + 1)) ≤ 1600; omega)⟩
          · show Sp p e below T10197 (mkF m 408 (lt29 p0 p1 p2 p3 p4 v5 b5 v7 v8 v9 v10 b10148 (anL w_1 w_2 p0 p1 [v7] .null) z10187 z10197) [(.int z10197)]) _
            refine XS.ifYes X10197.here hx rfl (pc0 := 408) (pc' := 417) rfl (hb hby at_408) rfl ((if0 _ _).trans (teq hc10206).1) (by decide) (by decide) ?_
            show Sp p e below T10197 (mkF m 417 (lt29 p0 p1 p2 p3 p4 v5 b5 v7 v8 v9 v10 b10148 (anL w_1 w_2 p0 p1 [v7] .null) z10187 z10197) []) _
            refine XS.aconstNull X10197.here hx rfl (hb hby at_417) ?_
            refine XS.astore X10197.here hx rfl (hb hby at_418) rfl rfl (l' := (lt30 p0 p1 p2 p3 p4 v5 b5 v7 v8 v9 v10 b10148 (anL w_1 w_2 p0 p1 [v7] .null) z10187 z10197)) rfl ?_
            show Sp p e below T10197 (mkF m 420 (lt30 p0 p1 p2 p3 p4 v5 b5 v7 v8 v9 v10 b10148 (anL w_1 w_2 p0 p1 [v7] .null) z10187 z10197) []) _
            refine XS.aload X10197.here hx rfl (hb hby at_420) rfl (anL_ref _ _ _ _ _ rfl) ?_
            refine XS.aload X10197.here hx rfl (hb hby at_422) rfl rfl ?_
            show Sp p e below T10197 (mkF m 424 (lt30 p0 p1 p2 p3 p4 v5 b5 v7 v8 v9 v10 b10148 (anL w_1 w_2 p0 p1 [v7] .null) z10187 z10197) [.null, (anL w_1 w_2 p0 p1 [v7] .null)]) _
            refine Jvm.RoadKit.acmp (g := (mkF m 424 (lt30 p0 p1 p2 p3 p4 v5 b5 v7 v8 v9 v10 b10148 (anL w_1 w_2 p0 p1 [v7] .null) z10187 z10197) [.null, (anL w_1 w_2 p0 p1 [v7] .null)])) X10197 hx rfl (anL_ref _ _ _ _ _ rfl) rfl (pc0 := 424) (pc' := 427) (same := true) rfl (hb hby at_424) rfl (decide_eq_true (by rw [own_anL, ← hz_10187, ← hz_10197]; simp [hc10204, hc10206] : (anL w_1 w_2 p0 p1 [v7] .null) = .null)) (by decide) (by decide) ?_
            show Sp p e below T10197 (mkF m 427 (lt30 p0 p1 p2 p3 p4 v5 b5 v7 v8 v9 v10 b10148 (anL w_1 w_2 p0 p1 [v7] .null) z10187 z10197) []) _
            refine XS.iconst X10197.here hx rfl (hb hby at_427) ?_
            show Sp p e below T10197 (mkF m 428 (lt30 p0 p1 p2 p3 p4 v5 b5 v7 v8 v9 v10 b10148 (anL w_1 w_2 p0 p1 [v7] .null) z10187 z10197) [(.int (1 : Int32))]) _
            refine XS.goto X10197.here hx rfl (pc0 := 428) (pc' := 432) rfl (hb hby at_428) (by decide) (by decide) ?_
            show Sp p e below T10197 (mkF m 432 (lt30 p0 p1 p2 p3 p4 v5 b5 v7 v8 v9 v10 b10148 (anL w_1 w_2 p0 p1 [v7] .null) z10187 z10197) [(.int (1 : Int32))]) _
            exact retN X10197 hx (t := .boolean) Bd.returns (by simp) (hb hby at_432) hr
          · show Q0 Z w_1 w_2 p0 p1 p2 p3 p4 h0 n0 _ T10197.heap _
            rw [e10197]
            exact ⟨rfl, N10197, trivial⟩
        · obtain ⟨T10207, X10207, e10207, st10207⟩ := getS2 X10197 hx hZ hown (host := "") (Or.inl (hw _ (tk 94 rfl))) Via.refl e10197 (S_2.ext O10197.2) (g := (mkF m 411 (lt29 p0 p1 p2 p3 p4 v5 b5 v7 v8 v9 v10 b10148 (anL w_1 w_2 p0 p1 [v7] .null) z10187 z10197) [])) rfl (hb hby at_411)
          obtain ⟨fs, hr, hrun, hended, hW, hsame⟩ := X10207.leave (v := some (.int (1 : Int32))) (fun h => by rw [Bd.returns] at h; cases h)
          refine ⟨_, _, pre10205 _ ?_, hrun, hended, _, _, rfl, ?_, ⟨_, rfl⟩, hW, hsame.mono (by decide) (by show ((10 + sl4074) + (sl8911 + 1)) ≤ 1600; omega)⟩
          · show Sp p e below T10197 (mkF m 408 (lt29 p0 p1 p2 p3 p4 v5 b5 v7 v8 v9 v10 b10148 (anL w_1 w_2 p0 p1 [v7] .null) z10187 z10197) [(.int z10197)]) _
            refine XS.ifNo X10197.here hx rfl (hb hby at_408) rfl ((if0 _ _).trans (feq hc10206).1) ?_
            show Sp p e below T10197 (mkF m 411 (lt29 p0 p1 p2 p3 p4 v5 b5 v7 v8 v9 v10 b10148 (anL w_1 w_2 p0 p1 [v7] .null) z10187 z10197) []) _
            refine st10207 _ ?_
            show Sp p e below T10207 (mkF m 414 (lt29 p0 p1 p2 p3 p4 v5 b5 v7 v8 v9 v10 b10148 (anL w_1 w_2 p0 p1 [v7] .null) z10187 z10197) [(.ref w_2)]) _
            refine XS.goto X10207.here hx rfl (pc0 := 414) (pc' := 418) rfl (hb hby at_414) (by decide) (by decide) ?_
            show Sp p e below T10207 (mkF m 418 (lt29 p0 p1 p2 p3 p4 v5 b5 v7 v8 v9 v10 b10148 (anL w_1 w_2 p0 p1 [v7] .null) z10187 z10197) [(.ref w_2)]) _
            refine XS.astore X10207.here hx rfl (hb hby at_418) rfl rfl (l' := (lt31 p0 p1 p2 p3 p4 v5 b5 v7 v8 v9 v10 b10148 (anL w_1 w_2 p0 p1 [v7] .null) z10187 z10197 w_2)) rfl ?_
            refine XS.aload X10207.here hx rfl (hb hby at_420) rfl (anL_ref _ _ _ _ _ rfl) ?_
            show Sp p e below T10207 (mkF m 422 (lt31 p0 p1 p2 p3 p4 v5 b5 v7 v8 v9 v10 b10148 (anL w_1 w_2 p0 p1 [v7] .null) z10187 z10197 w_2) [(anL w_1 w_2 p0 p1 [v7] .null)]) _
            refine XS.aload X10207.here hx rfl (hb hby at_422) rfl rfl ?_
            show Sp p e below T10207 (mkF m 424 (lt31 p0 p1 p2 p3 p4 v5 b5 v7 v8 v9 v10 b10148 (anL w_1 w_2 p0 p1 [v7] .null) z10187 z10197 w_2) [(.ref w_2), (anL w_1 w_2 p0 p1 [v7] .null)]) _
            refine Jvm.RoadKit.acmp (g := (mkF m 424 (lt31 p0 p1 p2 p3 p4 v5 b5 v7 v8 v9 v10 b10148 (anL w_1 w_2 p0 p1 [v7] .null) z10187 z10197 w_2) [(.ref w_2), (anL w_1 w_2 p0 p1 [v7] .null)])) X10207 hx rfl (anL_ref _ _ _ _ _ rfl) rfl (pc0 := 424) (pc' := 427) (same := true) rfl (hb hby at_424) rfl (decide_eq_true (by rw [own_anL, ← hz_10187, ← hz_10197]; simp [hc10204, hc10206] : (anL w_1 w_2 p0 p1 [v7] .null) = (.ref w_2))) (by decide) (by decide) ?_
            show Sp p e below T10207 (mkF m 427 (lt31 p0 p1 p2 p3 p4 v5 b5 v7 v8 v9 v10 b10148 (anL w_1 w_2 p0 p1 [v7] .null) z10187 z10197 w_2) []) _
            refine XS.iconst X10207.here hx rfl (hb hby at_427) ?_
            show Sp p e below T10207 (mkF m 428 (lt31 p0 p1 p2 p3 p4 v5 b5 v7 v8 v9 v10 b10148 (anL w_1 w_2 p0 p1 [v7] .null) z10187 z10197 w_2) [(.int (1 : Int32))]) _
            refine XS.goto X10207.here hx rfl (pc0 := 428) (pc' := 432) rfl (hb hby at_428) (by decide) (by decide) ?_
            show Sp p e below T10207 (mkF m 432 (lt31 p0 p1 p2 p3 p4 v5 b5 v7 v8 v9 v10 b10148 (anL w_1 w_2 p0 p1 [v7] .null) z10187 z10197 w_2) [(.int (1 : Int32))]) _
            exact retN X10207 hx (t := .boolean) Bd.returns (by simp) (hb hby at_432) hr
          · show Q0 Z w_1 w_2 p0 p1 p2 p3 p4 h0 n0 _ T10207.heap _
            rw [e10207]
            exact ⟨rfl, N10197, trivial⟩
      · obtain ⟨T10208, X10208, e10208, st10208⟩ := getS2 X10197 hx hZ hown (host := "") (Or.inl (hw _ (tk 91 rfl))) Via.refl e10197 (S_1.ext O10197.2) (g := (mkF m 400 (lt29 p0 p1 p2 p3 p4 v5 b5 v7 v8 v9 v10 b10148 (anL w_1 w_2 p0 p1 [v7] .null) z10187 z10197) [])) rfl (hb hby at_400)
        obtain ⟨fs, hr, hrun, hended, hW, hsame⟩ := X10208.leave (v := some (.int (1 : Int32))) (fun h => by rw [Bd.returns] at h; cases h)
        refine ⟨_, _, pre10203 _ ?_, hrun, hended, _, _, rfl, ?_, ⟨_, rfl⟩, hW, hsame.mono (by decide) (by show ((10 + sl4074) + (sl8911 + 1)) ≤ 1600; omega)⟩
        · show Sp p e below T10197 (mkF m 397 (lt29 p0 p1 p2 p3 p4 v5 b5 v7 v8 v9 v10 b10148 (anL w_1 w_2 p0 p1 [v7] .null) z10187 z10197) [(.int z10187)]) _
          refine XS.ifNo X10197.here hx rfl (hb hby at_397) rfl ((if0 _ _).trans (feq hc10204).1) ?_
          show Sp p e below T10197 (mkF m 400 (lt29 p0 p1 p2 p3 p4 v5 b5 v7 v8 v9 v10 b10148 (anL w_1 w_2 p0 p1 [v7] .null) z10187 z10197) []) _
          refine st10208 _ ?_
          show Sp p e below T10208 (mkF m 403 (lt29 p0 p1 p2 p3 p4 v5 b5 v7 v8 v9 v10 b10148 (anL w_1 w_2 p0 p1 [v7] .null) z10187 z10197) [(.ref w_1)]) _
          refine XS.goto X10208.here hx rfl (pc0 := 403) (pc' := 418) rfl (hb hby at_403) (by decide) (by decide) ?_
          show Sp p e below T10208 (mkF m 418 (lt29 p0 p1 p2 p3 p4 v5 b5 v7 v8 v9 v10 b10148 (anL w_1 w_2 p0 p1 [v7] .null) z10187 z10197) [(.ref w_1)]) _
          refine XS.astore X10208.here hx rfl (hb hby at_418) rfl rfl (l' := (lt31 p0 p1 p2 p3 p4 v5 b5 v7 v8 v9 v10 b10148 (anL w_1 w_2 p0 p1 [v7] .null) z10187 z10197 w_1)) rfl ?_
          refine XS.aload X10208.here hx rfl (hb hby at_420) rfl (anL_ref _ _ _ _ _ rfl) ?_
          show Sp p e below T10208 (mkF m 422 (lt31 p0 p1 p2 p3 p4 v5 b5 v7 v8 v9 v10 b10148 (anL w_1 w_2 p0 p1 [v7] .null) z10187 z10197 w_1) [(anL w_1 w_2 p0 p1 [v7] .null)]) _
          refine XS.aload X10208.here hx rfl (hb hby at_422) rfl rfl ?_
          show Sp p e below T10208 (mkF m 424 (lt31 p0 p1 p2 p3 p4 v5 b5 v7 v8 v9 v10 b10148 (anL w_1 w_2 p0 p1 [v7] .null) z10187 z10197 w_1) [(.ref w_1), (anL w_1 w_2 p0 p1 [v7] .null)]) _
          refine Jvm.RoadKit.acmp (g := (mkF m 424 (lt31 p0 p1 p2 p3 p4 v5 b5 v7 v8 v9 v10 b10148 (anL w_1 w_2 p0 p1 [v7] .null) z10187 z10197 w_1) [(.ref w_1), (anL w_1 w_2 p0 p1 [v7] .null)])) X10208 hx rfl (anL_ref _ _ _ _ _ rfl) rfl (pc0 := 424) (pc' := 427) (same := true) rfl (hb hby at_424) rfl (decide_eq_true (by rw [own_anL, ← hz_10187, ← hz_10197]; simp [hc10204] : (anL w_1 w_2 p0 p1 [v7] .null) = (.ref w_1))) (by decide) (by decide) ?_
          show Sp p e below T10208 (mkF m 427 (lt31 p0 p1 p2 p3 p4 v5 b5 v7 v8 v9 v10 b10148 (anL w_1 w_2 p0 p1 [v7] .null) z10187 z10197 w_1) []) _
          refine XS.iconst X10208.here hx rfl (hb hby at_427) ?_
          show Sp p e below T10208 (mkF m 428 (lt31 p0 p1 p2 p3 p4 v5 b5 v7 v8 v9 v10 b10148 (anL w_1 w_2 p0 p1 [v7] .null) z10187 z10197 w_1) [(.int (1 : Int32))]) _
          refine XS.goto X10208.here hx rfl (pc0 := 428) (pc' := 432) rfl (hb hby at_428) (by decide) (by decide) ?_
          show Sp p e below T10208 (mkF m 432 (lt31 p0 p1 p2 p3 p4 v5 b5 v7 v8 v9 v10 b10148 (anL w_1 w_2 p0 p1 [v7] .null) z10187 z10197 w_1) [(.int (1 : Int32))]) _
          exact retN X10208 hx (t := .boolean) Bd.returns (by simp) (hb hby at_432) hr
        · show Q0 Z w_1 w_2 p0 p1 p2 p3 p4 h0 n0 _ T10208.heap _
          rw [e10208]
          exact ⟨rfl, N10197, trivial⟩
    · by_cases hc10209 : v10 = (2 : Int32)
      · obtain ⟨T10210, h10210, k10210, X10210, e10210, E10210, A10210, st10210⟩ := newP X8911 hx hZ (hw _ (tk 57 rfl)) e8911 (g := (mkF m 232 (lt14 p0 p1 p2 p3 p4 v5 b5 v7 v8 v9 v10) [(.int (2 : Int32))])) rfl (hb hby at_232) rfl (by decide) (cap := 2) (by decide) (by decide) (by decide) (by show ((10 + sl4074) + sl8911) + 2 ≤ 1600; omega)
        obtain ⟨b10210, g10210⟩ : ∃ z, z = h8911.size := ⟨_, rfl⟩
        rw [← g10210] at A10210 st10210
        have g_b10210 : n0 ≤ b10210 := Nat.le_trans (own_old O8911) (Nat.le_of_eq g10210.symm)
        have ne_b5_b10210 : b5 ≠ b10210 := Nat.ne_of_lt (Nat.lt_of_lt_of_le c8911_0.lt (Nat.le_of_eq g10210.symm))
        have ne_b64_b10210 : b64 ≠ b10210 := Nat.ne_of_lt (Nat.lt_of_lt_of_le c8911_3.lt (Nat.le_of_eq g10210.symm))
        have ne_w_4074_b10210 : w_4074 ≠ b10210 := Nat.ne_of_lt (Nat.lt_of_lt_of_le c8911_7.lt (Nat.le_of_eq g10210.symm))
        have ne_b67_b10210 : b67 ≠ b10210 := Nat.ne_of_lt (Nat.lt_of_lt_of_le c8911_8.lt (Nat.le_of_eq g10210.symm))
        have ne_w_8911_b10210 : w_8911 ≠ b10210 := Nat.ne_of_lt (Nat.lt_of_lt_of_le c8911_12.lt (Nat.le_of_eq g10210.symm))
        have O10210 : Old Z n0 h10210 := O8911.ext E10210
        have V_b10210 : Arv Z h10210 b10210 k10210 .int (2 : Int32) [(.int (0 : Int32)), (.int (0 : Int32))] (.int (0 : Int32)) := (Arv.new A10210 (by decide)).pad (pad_rep [] (.int (0 : Int32)) 2)
        obtain ⟨cl10211, Ar10211, qa10211, Sa10211, Ma10211, Ha10211, Ga10211⟩ := id V_b10210
        have hin10211 : ¬ ((0 : Int32) < 0 ∨ cl10211.slots.size ≤ ((0 : Int32)).toNatClampNeg) := by exact inb_of Sa10211 ⟨by decide, by decide⟩
        obtain ⟨T10212, h10212, X10212, e10212, W10212, st10212⟩ := stI X10210 hx hZ e10210 Ar10211 (j := (0 : Int32)) hin10211 (g := (mkF m 241 (lt14 p0 p1 p2 p3 p4 v5 b5 v7 v8 v9 v10) [(.int (v5 + v7)), (.int (0 : Int32)), (.ref b10210), (.ref b10210)])) rfl rfl (hb hby at_241)
        have V_b10210_10212 : Arv Z h10212 b10210 k10210 .int (2 : Int32) [(.int (v5 + v7)), (.int (0 : Int32))] (.int (0 : Int32)) := Arv.set Ar10211 qa10211 Sa10211 Ma10211 Ha10211 Ga10211 rfl W10212 0 rfl (Nat.le_of_ble_eq_true rfl)
        have O10212 : Old Z n0 h10212 := O10210.wr W10212 g_b10210
        have N10212 := Fr.snoc X10212 N8911 g_b10210
        obtain ⟨cl10213, Ar10213, qa10213, Sa10213, Ma10213, Ha10213, Ga10213⟩ := id V_b10210_10212
        have hin10213 : ¬ ((1 : Int32) < 0 ∨ cl10213.slots.size ≤ ((1 : Int32)).toNatClampNeg) := by exact inb_of Sa10213 ⟨by decide, by decide⟩
        obtain ⟨T10214, h10214, X10214, e10214, W10214, st10214⟩ := stI X10212 hx hZ e10212 Ar10213 (j := (1 : Int32)) hin10213 (g := (mkF m 249 (lt14 p0 p1 p2 p3 p4 v5 b5 v7 v8 v9 v10) [(.int (v5 + v8)), (.int (1 : Int32)), (.ref b10210), (.ref b10210)])) rfl rfl (hb hby at_249)
        have V_b10210_10214 : Arv Z h10214 b10210 k10210 .int (2 : Int32) [(.int (v5 + v7)), (.int (v5 + v8))] (.int (0 : Int32)) := Arv.set Ar10213 qa10213 Sa10213 Ma10213 Ha10213 Ga10213 rfl W10214 1 rfl (Nat.le_of_ble_eq_true rfl)
        have O10214 : Old Z n0 h10214 := O10212.wr W10214 g_b10210
        have N10214 := Fr.snoc X10214 N10212 g_b10210
        have c10249 := (((c8911_0.ext E10210).wr W10212).wr W10214)
        have c10250 := (((c8911_2.ext E10210).other W10212 (Or.inl ne_b5_b10210)).other W10214 (Or.inl ne_b5_b10210))
        have c10251 := (((c8911_1.ext E10210).other W10212 (Or.inl ne_b5_b10210)).other W10214 (Or.inl ne_b5_b10210))
        have c10252 := (((c8911_8.ext E10210).wr W10212).wr W10214)
        have c10253 := (((c8911_11.ext E10210).other W10212 (Or.inl ne_b67_b10210)).other W10214 (Or.inl ne_b67_b10210))
        have c10254 := (((c8911_9.ext E10210).other W10212 (Or.inl ne_b67_b10210)).other W10214 (Or.inl ne_b67_b10210))
        have c10255 := (((c8911_12.ext E10210).other W10212 ne_w_8911_b10210).other W10214 ne_w_8911_b10210)
        have c10256 := (((c8911_3.ext E10210).wr W10212).wr W10214)
        have c10257 := (((c8911_6.ext E10210).other W10212 (Or.inl ne_b64_b10210)).other W10214 (Or.inl ne_b64_b10210))
        have c10258 := (((c8911_4.ext E10210).other W10212 (Or.inl ne_b64_b10210)).other W10214 (Or.inl ne_b64_b10210))
        have c10259 := (((c8911_7.ext E10210).other W10212 ne_w_4074_b10210).other W10214 ne_w_4074_b10210)
        obtain ⟨cq10260, kq10260, q10260a, q10260b, q10260c⟩ := isOf hZ e10214 c10249
        obtain ⟨_, _, ⟨T10260, L10260, k10260, n10260⟩, -, X10260, ⟨Lc10260, hQ10260, l10260, y10260, z10260⟩, st10260⟩ := X10214.virtualBack hx (y := Y31) (z := Y31) hown (mvT hZ (hw _ (tk 58 rfl))) (mvT hZ (hw _ (tk 59 rfl))) (notFace_of_selects (args := #[]) (mvT hZ (hw _ (tk 61 rfl)))) (mvT hZ (hw _ (tk 61 rfl))) (mvT hZ (hw _ (tk 60 rfl))) (by decide) (backOf (W := 0) (rm10x3 l Z a0 hw hv [] w_1 w_2 hS0 b5 b10210 b67 w_8911 b64 w_4074 u_8911 kk8911 n_8911 F_8911 u_4074 kk4074 n_4074 F_4074 k10210 (v5 + v7) (v5 + v8) h10214 n0 O10214 g_b5 g_b67 g_w_8911 g_b64 g_w_4074 g_b10210 c10249 c10250 c10251 c10252 c10253 c10254 c10255 c10256 c10257 c10258 c10259 V_b10210_10214 ne_b5_b67 ne_b5_w_8911 ne_b5_b64 ne_b5_w_4074 ne_b5_b10210 ne_b67_w_8911 (Ne.symm Fx63_19) ne_b67_w_4074 ne_b67_b10210 (Ne.symm ne_b64_w_8911) (Ne.symm ne_w_4074_w_8911) ne_w_8911_b10210 ne_b64_w_4074 ne_b64_b10210 ne_w_4074_b10210 (own_cnn hB (r_v7)) (own_cwn hB (r_v7)) (own_cnn hB (r_v8)) (own_cwn hB (r_v8)) (fun z => by have z := Int32.lt_iff_toInt_lt.mp z; omega) (fun z => by have z := Int32.lt_iff_toInt_lt.mp z; omega)) hZ (hw _ (tk 62 rfl)) (hw _ (tk 2 rfl)) (by decide) (by decide)) q10260a q10260c (g := (mkF m 288 (lt15 p0 p1 p2 p3 p4 v5 b5 v7 v8 v9 v10 b10210) [(.ref b10210), (.ref b5)])) rfl (by rw [hml]; rfl) (Steps.refl _) (argsL := [(.ref b10210)]) (rest := []) (lenOf pd_5 rfl) rfl (by show 2 * 0 + _ ≤ _; exact Nat.le_of_eq rfl) (hb hby at_288) (fun _ _ => ⟨rfl, e10214, (by decide : 14 + 0 ≤ _), (by show ((10 + sl4074) + (sl8911 + 2)) + 0 ≤ 1600; omega)⟩)
        dsimp only [Pt.U, Pt.locs, Pt.cells, Pt.slots] at X10260 l10260 y10260 z10260 st10260 hQ10260
        subst l10260 y10260 z10260
        obtain ⟨rv10260, N10260q, e10260⟩ := hQ10260
        rw [show (sp10x3 w_1 w_2 u_8911 F_8911 u_4074 F_4074 (v5 + v7) (v5 + v8)) = (anL w_1 w_2 p0 p1 [v7, v8] .null) from own_ans2 hB hI_4074 hI_8911 (r_v7) (r_v8)] at rv10260
        subst rv10260
        have N10260 := Fr.app N10214 N10260q
        have pre10261 : Cm p e below E0 (T10260.setTop (mkF m 293 (lt27 p0 p1 p2 p3 p4 v5 b5 v7 v8 v9 v10 b10210 (anL w_1 w_2 p0 p1 [v7, v8] .null)) [])) := fun t kt => by
          refine pre10124 t ?_
          show Sp p e below T8911 (mkF m 190 (lt14 p0 p1 p2 p3 p4 v5 b5 v7 v8 v9 v10) []) _
          refine XS.iload X8911.here hx rfl (hb hby at_190) rfl ?_
          show Sp p e below T8911 (mkF m 192 (lt14 p0 p1 p2 p3 p4 v5 b5 v7 v8 v9 v10) [(.int v10)]) _
          refine XS.ifYes X8911.here hx rfl (pc0 := 192) (pc' := 203) rfl (hb hby at_192) rfl ((if0 _ _).trans (feq hc10125).2) (by decide) (by decide) ?_
          show Sp p e below T8911 (mkF m 203 (lt14 p0 p1 p2 p3 p4 v5 b5 v7 v8 v9 v10) []) _
          refine XS.iload X8911.here hx rfl (hb hby at_203) rfl ?_
          refine XS.iconst X8911.here hx rfl (hb hby at_205) ?_
          show Sp p e below T8911 (mkF m 206 (lt14 p0 p1 p2 p3 p4 v5 b5 v7 v8 v9 v10) [(.int (1 : Int32)), (.int v10)]) _
          refine XS.icmpYes X8911.here hx rfl (pc0 := 206) (pc' := 225) rfl (hb hby at_206) rfl (feq hc10147).2 (by decide) (by decide) ?_
          show Sp p e below T8911 (mkF m 225 (lt14 p0 p1 p2 p3 p4 v5 b5 v7 v8 v9 v10) []) _
          refine XS.iload X8911.here hx rfl (hb hby at_225) rfl ?_
          refine XS.iconst X8911.here hx rfl (hb hby at_227) ?_
          show Sp p e below T8911 (mkF m 228 (lt14 p0 p1 p2 p3 p4 v5 b5 v7 v8 v9 v10) [(.int (2 : Int32)), (.int v10)]) _
          refine XS.icmpNo X8911.here hx rfl (hb hby at_228) rfl (teq hc10209).2 ?_
          show Sp p e below T8911 (mkF m 231 (lt14 p0 p1 p2 p3 p4 v5 b5 v7 v8 v9 v10) []) _
          refine XS.iconst X8911.here hx rfl (hb hby at_231) ?_
          show Sp p e below T8911 (mkF m 232 (lt14 p0 p1 p2 p3 p4 v5 b5 v7 v8 v9 v10) [(.int (2 : Int32))]) _
          refine st10210 _ ?_
          show Sp p e below T10210 (mkF m 234 (lt14 p0 p1 p2 p3 p4 v5 b5 v7 v8 v9 v10) [(.ref b10210)]) _
          refine XS.dup X10210.here hx rfl (hb hby at_234) rfl rfl ?_
          refine XS.iconst X10210.here hx rfl (hb hby at_235) ?_
          show Sp p e below T10210 (mkF m 236 (lt14 p0 p1 p2 p3 p4 v5 b5 v7 v8 v9 v10) [(.int (0 : Int32)), (.ref b10210), (.ref b10210)]) _
          refine XS.iload X10210.here hx rfl (hb hby at_236) rfl ?_
          refine XS.iload X10210.here hx rfl (hb hby at_238) rfl ?_
          show Sp p e below T10210 (mkF m 240 (lt14 p0 p1 p2 p3 p4 v5 b5 v7 v8 v9 v10) [(.int v7), (.int v5), (.int (0 : Int32)), (.ref b10210), (.ref b10210)]) _
          refine XS.iadd X10210.here hx rfl (hb hby at_240) rfl ?_
          show Sp p e below T10210 (mkF m 241 (lt14 p0 p1 p2 p3 p4 v5 b5 v7 v8 v9 v10) [(.int (v5 + v7)), (.int (0 : Int32)), (.ref b10210), (.ref b10210)]) _
          refine st10212 _ ?_
          show Sp p e below T10212 (mkF m 242 (lt14 p0 p1 p2 p3 p4 v5 b5 v7 v8 v9 v10) [(.ref b10210)]) _
          refine XS.dup X10212.here hx rfl (hb hby at_242) rfl rfl ?_
          refine XS.iconst X10212.here hx rfl (hb hby at_243) ?_
          show Sp p e below T10212 (mkF m 244 (lt14 p0 p1 p2 p3 p4 v5 b5 v7 v8 v9 v10) [(.int (1 : Int32)), (.ref b10210), (.ref b10210)]) _
          refine XS.iload X10212.here hx rfl (hb hby at_244) rfl ?_
          refine XS.iload X10212.here hx rfl (hb hby at_246) rfl ?_
          show Sp p e below T10212 (mkF m 248 (lt14 p0 p1 p2 p3 p4 v5 b5 v7 v8 v9 v10) [(.int v8), (.int v5), (.int (1 : Int32)), (.ref b10210), (.ref b10210)]) _
          refine XS.iadd X10212.here hx rfl (hb hby at_248) rfl ?_
          show Sp p e below T10212 (mkF m 249 (lt14 p0 p1 p2 p3 p4 v5 b5 v7 v8 v9 v10) [(.int (v5 + v8)), (.int (1 : Int32)), (.ref b10210), (.ref b10210)]) _
          refine st10214 _ ?_
          show Sp p e below T10214 (mkF m 250 (lt14 p0 p1 p2 p3 p4 v5 b5 v7 v8 v9 v10) [(.ref b10210)]) _
          refine XS.astore X10214.here hx rfl (hb hby at_250) rfl rfl (l' := (lt15 p0 p1 p2 p3 p4 v5 b5 v7 v8 v9 v10 b10210)) rfl ?_
          show Sp p e below T10214 (mkF m 252 (lt15 p0 p1 p2 p3 p4 v5 b5 v7 v8 v9 v10 b10210) []) _
          refine XS.goto X10214.here hx rfl (pc0 := 252) (pc' := 284) rfl (hb hby at_252) (by decide) (by decide) ?_
          show Sp p e below T10214 (mkF m 284 (lt15 p0 p1 p2 p3 p4 v5 b5 v7 v8 v9 v10 b10210) []) _
          refine XS.aload X10214.here hx rfl (hb hby at_284) rfl rfl ?_
          refine XS.aload X10214.here hx rfl (hb hby at_286) rfl rfl ?_
          show Sp p e below T10214 (mkF m 288 (lt15 p0 p1 p2 p3 p4 v5 b5 v7 v8 v9 v10 b10210) [(.ref b10210), (.ref b5)]) _
          refine st10260.trans ?_
          show Sp p e below T10260 (mkF m 291 (lt15 p0 p1 p2 p3 p4 v5 b5 v7 v8 v9 v10 b10210) [(anL w_1 w_2 p0 p1 [v7, v8] .null)]) _
          refine XS.astoreS X10260.here hx rfl (hb hby at_291) rfl (anL_ref _ _ _ _ _ rfl) (XT.cat1 (anL_ref _ _ _ _ _ rfl)) rfl (Or.inl rfl) ?_
          show Sp p e below T10260 (mkF m 293 (lt27 p0 p1 p2 p3 p4 v5 b5 v7 v8 v9 v10 b10210 (anL w_1 w_2 p0 p1 [v7, v8] .null)) []) _
          exact kt
        have c10262 := (((c8911_5.ext E10210).other W10212 (Or.inl ne_b64_b10210)).other W10214 (Or.inl ne_b64_b10210))
        have c10263 := (((c8911_10.ext E10210).other W10212 (Or.inl ne_b67_b10210)).other W10214 (Or.inl ne_b67_b10210))
        obtain ⟨T10264, h10264, L10264, z10264, X10264, e10264, O10264, N10264, hz_10264, pre10264⟩ : ∃ (T10264 : State) (h10264 : Heap) (L10264 : List Loc) (z10264 : Int32), Stand p l e room_1 s m #[(.int p0), (.int p1), (.int p2), (.int p3), (.int p4)] below meth c T10264 L10264 14 ((10 + sl4074) + (sl8911 + 2)) ∧ T10264.heap = h10264 ∧ Old Z n0 h10264 ∧ Fr n0 L10264 ∧ z10264 = anyM p1 [v7, v8] ∧ Cm p e below E0 (T10264.setTop (mkF m 344 (lt28 p0 p1 p2 p3 p4 v5 b5 v7 v8 v9 v10 b10210 (anL w_1 w_2 p0 p1 [v7, v8] .null) z10264) [])) := by
          obtain ⟨_, _, ⟨T10265, L10265, k10265, n10265⟩, -, X10265, ⟨Lc10265, hQ10265, l10265, y10265, z10265⟩, st10265⟩ := Jvm.LawKit.callS X10260 hx (y := Y40) hown (mvT hZ (hw _ (tk 68 rfl))) (mvT hZ (hw _ (tk 69 rfl))) (mvT hZ (hw _ (tk 70 rfl))) (mvT hZ (hw _ (tk 71 rfl))) (by decide) (backOf (W := 0) (rm12 l Z a0 hw hv [] w_1 w_2 hS0 p1 v7 h10214 n0 O10214) hZ (hw _ (tk 71 rfl)) (hw _ (tk 70 rfl)) (by decide) (by decide)) (g := (mkF m 301 (lt27 p0 p1 p2 p3 p4 v5 b5 v7 v8 v9 v10 b10210 (anL w_1 w_2 p0 p1 [v7, v8] .null)) [(.int v7), (.int p1)])) rfl (by rw [hml]; rfl) (argsL := [(.int p1), (.int v7)]) (rest := []) (lenOf pd_7 rfl) rfl (by show 2 * 0 + _ ≤ _; exact Nat.le_of_eq rfl) (hb hby at_301) (fun _ _ => ⟨rfl, e10260, (by decide : 14 + 0 ≤ _), (by show ((10 + sl4074) + (sl8911 + 2)) + 0 ≤ 1600; omega)⟩)
          dsimp only [Pt.U, Pt.locs, Pt.cells, Pt.slots] at X10265 l10265 y10265 z10265 st10265 hQ10265
          subst l10265 y10265 z10265
          obtain ⟨rv10265, N10265q, e10265⟩ := hQ10265
          subst rv10265
          have N10265 := Fr.app N10260 N10265q
          have pre10266 : Cm p e below E0 (T10265.setTop (mkF m 304 (lt27 p0 p1 p2 p3 p4 v5 b5 v7 v8 v9 v10 b10210 (anL w_1 w_2 p0 p1 [v7, v8] .null)) [(.int (sp12 p1 v7))])) := fun t kt => by
            refine pre10261 t ?_
            show Sp p e below T10260 (mkF m 293 (lt27 p0 p1 p2 p3 p4 v5 b5 v7 v8 v9 v10 b10210 (anL w_1 w_2 p0 p1 [v7, v8] .null)) []) _
            refine XS.iload X10260.here hx rfl (hb hby at_293) rfl ?_
            show Sp p e below T10260 (mkF m 295 (lt27 p0 p1 p2 p3 p4 v5 b5 v7 v8 v9 v10 b10210 (anL w_1 w_2 p0 p1 [v7, v8] .null)) [(.int v10)]) _
            refine XS.ifNo X10260.here hx rfl (hb hby at_295) rfl ((if0 _ _).trans (tlt (by rw [hc10209] <;> decide : ((0 : Int32) < v10))).2.2.2) ?_
            show Sp p e below T10260 (mkF m 298 (lt27 p0 p1 p2 p3 p4 v5 b5 v7 v8 v9 v10 b10210 (anL w_1 w_2 p0 p1 [v7, v8] .null)) []) _
            refine XS.iloadN X10260.here hx rfl (hb hby at_298) rfl ?_
            refine XS.iload X10260.here hx rfl (hb hby at_299) rfl ?_
            show Sp p e below T10260 (mkF m 301 (lt27 p0 p1 p2 p3 p4 v5 b5 v7 v8 v9 v10 b10210 (anL w_1 w_2 p0 p1 [v7, v8] .null)) [(.int v7), (.int p1)]) _
            refine st10265 _ ?_
            show Sp p e below T10265 (mkF m 304 (lt27 p0 p1 p2 p3 p4 v5 b5 v7 v8 v9 v10 b10210 (anL w_1 w_2 p0 p1 [v7, v8] .null)) [(.int (sp12 p1 v7))]) _
            exact kt
          by_cases hc10267 : (sp12 p1 v7) = (0 : Int32)
          · obtain ⟨_, _, ⟨T10268, L10268, k10268, n10268⟩, -, X10268, ⟨Lc10268, hQ10268, l10268, y10268, z10268⟩, st10268⟩ := Jvm.LawKit.callS X10265 hx (y := Y40) hown (mvT hZ (hw _ (tk 68 rfl))) (mvT hZ (hw _ (tk 69 rfl))) (mvT hZ (hw _ (tk 70 rfl))) (mvT hZ (hw _ (tk 71 rfl))) (by decide) (backOf (W := 0) (rm12 l Z a0 hw hv [] w_1 w_2 hS0 p1 v8 h10214 n0 O10214) hZ (hw _ (tk 71 rfl)) (hw _ (tk 70 rfl)) (by decide) (by decide)) (g := (mkF m 316 (lt27 p0 p1 p2 p3 p4 v5 b5 v7 v8 v9 v10 b10210 (anL w_1 w_2 p0 p1 [v7, v8] .null)) [(.int v8), (.int p1)])) rfl (by rw [hml]; rfl) (argsL := [(.int p1), (.int v8)]) (rest := []) (lenOf pd_7 rfl) rfl (by show 2 * 0 + _ ≤ _; exact Nat.le_of_eq rfl) (hb hby at_316) (fun _ _ => ⟨rfl, e10265, (by decide : 14 + 0 ≤ _), (by show ((10 + sl4074) + (sl8911 + 2)) + 0 ≤ 1600; omega)⟩)
            dsimp only [Pt.U, Pt.locs, Pt.cells, Pt.slots] at X10268 l10268 y10268 z10268 st10268 hQ10268
            subst l10268 y10268 z10268
            obtain ⟨rv10268, N10268q, e10268⟩ := hQ10268
            subst rv10268
            have N10268 := Fr.app N10265 N10268q
            have pre10269 : Cm p e below E0 (T10268.setTop (mkF m 319 (lt27 p0 p1 p2 p3 p4 v5 b5 v7 v8 v9 v10 b10210 (anL w_1 w_2 p0 p1 [v7, v8] .null)) [(.int (sp12 p1 v8))])) := fun t kt => by
              refine pre10266 t ?_
              show Sp p e below T10265 (mkF m 304 (lt27 p0 p1 p2 p3 p4 v5 b5 v7 v8 v9 v10 b10210 (anL w_1 w_2 p0 p1 [v7, v8] .null)) [(.int (sp12 p1 v7))]) _
              refine XS.ifNo X10265.here hx rfl (hb hby at_304) rfl ((if0 _ _).trans (teq hc10267).2) ?_
              show Sp p e below T10265 (mkF m 307 (lt27 p0 p1 p2 p3 p4 v5 b5 v7 v8 v9 v10 b10210 (anL w_1 w_2 p0 p1 [v7, v8] .null)) []) _
              refine XS.iload X10265.here hx rfl (hb hby at_307) rfl ?_
              refine XS.iconst X10265.here hx rfl (hb hby at_309) ?_
              show Sp p e below T10265 (mkF m 310 (lt27 p0 p1 p2 p3 p4 v5 b5 v7 v8 v9 v10 b10210 (anL w_1 w_2 p0 p1 [v7, v8] .null)) [(.int (1 : Int32)), (.int v10)]) _
              refine XS.icmpNo X10265.here hx rfl (hb hby at_310) rfl (tlt (by rw [hc10209] <;> decide : ((1 : Int32) < v10))).2.2.2 ?_
              show Sp p e below T10265 (mkF m 313 (lt27 p0 p1 p2 p3 p4 v5 b5 v7 v8 v9 v10 b10210 (anL w_1 w_2 p0 p1 [v7, v8] .null)) []) _
              refine XS.iloadN X10265.here hx rfl (hb hby at_313) rfl ?_
              refine XS.iload X10265.here hx rfl (hb hby at_314) rfl ?_
              show Sp p e below T10265 (mkF m 316 (lt27 p0 p1 p2 p3 p4 v5 b5 v7 v8 v9 v10 b10210 (anL w_1 w_2 p0 p1 [v7, v8] .null)) [(.int v8), (.int p1)]) _
              refine st10268 _ ?_
              show Sp p e below T10268 (mkF m 319 (lt27 p0 p1 p2 p3 p4 v5 b5 v7 v8 v9 v10 b10210 (anL w_1 w_2 p0 p1 [v7, v8] .null)) [(.int (sp12 p1 v8))]) _
              exact kt
            by_cases hc10270 : (sp12 p1 v8) = (0 : Int32)
            · have pre10271 : Cm p e below E0 (T10268.setTop (mkF m 344 (lt28 p0 p1 p2 p3 p4 v5 b5 v7 v8 v9 v10 b10210 (anL w_1 w_2 p0 p1 [v7, v8] .null) (0 : Int32)) [])) := fun t kt => by
                refine pre10269 t ?_
                show Sp p e below T10268 (mkF m 319 (lt27 p0 p1 p2 p3 p4 v5 b5 v7 v8 v9 v10 b10210 (anL w_1 w_2 p0 p1 [v7, v8] .null)) [(.int (sp12 p1 v8))]) _
                refine XS.ifNo X10268.here hx rfl (hb hby at_319) rfl ((if0 _ _).trans (teq hc10270).2) ?_
                show Sp p e below T10268 (mkF m 322 (lt27 p0 p1 p2 p3 p4 v5 b5 v7 v8 v9 v10 b10210 (anL w_1 w_2 p0 p1 [v7, v8] .null)) []) _
                refine XS.iload X10268.here hx rfl (hb hby at_322) rfl ?_
                refine XS.iconst X10268.here hx rfl (hb hby at_324) ?_
                show Sp p e below T10268 (mkF m 325 (lt27 p0 p1 p2 p3 p4 v5 b5 v7 v8 v9 v10 b10210 (anL w_1 w_2 p0 p1 [v7, v8] .null)) [(.int (2 : Int32)), (.int v10)]) _
                refine XS.icmpYes X10268.here hx rfl (pc0 := 325) (pc' := 341) rfl (hb hby at_325) rfl (flt (by rw [hc10209] <;> decide : ¬ ((2 : Int32) < v10))).2.2.2 (by decide) (by decide) ?_
                show Sp p e below T10268 (mkF m 341 (lt27 p0 p1 p2 p3 p4 v5 b5 v7 v8 v9 v10 b10210 (anL w_1 w_2 p0 p1 [v7, v8] .null)) []) _
                refine XS.iconst X10268.here hx rfl (hb hby at_341) ?_
                refine XS.istore X10268.here hx rfl (hb hby at_342) rfl (l' := (lt28 p0 p1 p2 p3 p4 v5 b5 v7 v8 v9 v10 b10210 (anL w_1 w_2 p0 p1 [v7, v8] .null) (0 : Int32))) rfl ?_
                show Sp p e below T10268 (mkF m 344 (lt28 p0 p1 p2 p3 p4 v5 b5 v7 v8 v9 v10 b10210 (anL w_1 w_2 p0 p1 [v7, v8] .null) (0 : Int32)) []) _
                exact kt
              exact ⟨_, _, _, (0 : Int32), X10268.more (by decide) (by show ((10 + sl4074) + (sl8911 + 2)) ≤ ((10 + sl4074) + (sl8911 + 2)); omega), e10268, O10214, N10268, (by simp [anyM, hc10267, hc10270]), pre10271⟩
            · have pre10272 : Cm p e below E0 (T10268.setTop (mkF m 344 (lt28 p0 p1 p2 p3 p4 v5 b5 v7 v8 v9 v10 b10210 (anL w_1 w_2 p0 p1 [v7, v8] .null) (1 : Int32)) [])) := fun t kt => by
                refine pre10269 t ?_
                show Sp p e below T10268 (mkF m 319 (lt27 p0 p1 p2 p3 p4 v5 b5 v7 v8 v9 v10 b10210 (anL w_1 w_2 p0 p1 [v7, v8] .null)) [(.int (sp12 p1 v8))]) _
                refine XS.ifYes X10268.here hx rfl (pc0 := 319) (pc' := 337) rfl (hb hby at_319) rfl ((if0 _ _).trans (feq hc10270).2) (by decide) (by decide) ?_
                show Sp p e below T10268 (mkF m 337 (lt27 p0 p1 p2 p3 p4 v5 b5 v7 v8 v9 v10 b10210 (anL w_1 w_2 p0 p1 [v7, v8] .null)) []) _
                refine XS.iconst X10268.here hx rfl (hb hby at_337) ?_
                show Sp p e below T10268 (mkF m 338 (lt27 p0 p1 p2 p3 p4 v5 b5 v7 v8 v9 v10 b10210 (anL w_1 w_2 p0 p1 [v7, v8] .null)) [(.int (1 : Int32))]) _
                refine XS.goto X10268.here hx rfl (pc0 := 338) (pc' := 342) rfl (hb hby at_338) (by decide) (by decide) ?_
                show Sp p e below T10268 (mkF m 342 (lt27 p0 p1 p2 p3 p4 v5 b5 v7 v8 v9 v10 b10210 (anL w_1 w_2 p0 p1 [v7, v8] .null)) [(.int (1 : Int32))]) _
                refine XS.istore X10268.here hx rfl (hb hby at_342) rfl (l' := (lt28 p0 p1 p2 p3 p4 v5 b5 v7 v8 v9 v10 b10210 (anL w_1 w_2 p0 p1 [v7, v8] .null) (1 : Int32))) rfl ?_
                show Sp p e below T10268 (mkF m 344 (lt28 p0 p1 p2 p3 p4 v5 b5 v7 v8 v9 v10 b10210 (anL w_1 w_2 p0 p1 [v7, v8] .null) (1 : Int32)) []) _
                exact kt
              exact ⟨_, _, _, (1 : Int32), X10268.more (by decide) (by show ((10 + sl4074) + (sl8911 + 2)) ≤ ((10 + sl4074) + (sl8911 + 2)); omega), e10268, O10214, N10268, (by simp [anyM, hc10267, hc10270]), pre10272⟩
          · have pre10273 : Cm p e below E0 (T10265.setTop (mkF m 344 (lt28 p0 p1 p2 p3 p4 v5 b5 v7 v8 v9 v10 b10210 (anL w_1 w_2 p0 p1 [v7, v8] .null) (1 : Int32)) [])) := fun t kt => by
              refine pre10266 t ?_
              show Sp p e below T10265 (mkF m 304 (lt27 p0 p1 p2 p3 p4 v5 b5 v7 v8 v9 v10 b10210 (anL w_1 w_2 p0 p1 [v7, v8] .null)) [(.int (sp12 p1 v7))]) _
              refine XS.ifYes X10265.here hx rfl (pc0 := 304) (pc' := 337) rfl (hb hby at_304) rfl ((if0 _ _).trans (feq hc10267).2) (by decide) (by decide) ?_
              show Sp p e below T10265 (mkF m 337 (lt27 p0 p1 p2 p3 p4 v5 b5 v7 v8 v9 v10 b10210 (anL w_1 w_2 p0 p1 [v7, v8] .null)) []) _
              refine XS.iconst X10265.here hx rfl (hb hby at_337) ?_
              show Sp p e below T10265 (mkF m 338 (lt27 p0 p1 p2 p3 p4 v5 b5 v7 v8 v9 v10 b10210 (anL w_1 w_2 p0 p1 [v7, v8] .null)) [(.int (1 : Int32))]) _
              refine XS.goto X10265.here hx rfl (pc0 := 338) (pc' := 342) rfl (hb hby at_338) (by decide) (by decide) ?_
              show Sp p e below T10265 (mkF m 342 (lt27 p0 p1 p2 p3 p4 v5 b5 v7 v8 v9 v10 b10210 (anL w_1 w_2 p0 p1 [v7, v8] .null)) [(.int (1 : Int32))]) _
              refine XS.istore X10265.here hx rfl (hb hby at_342) rfl (l' := (lt28 p0 p1 p2 p3 p4 v5 b5 v7 v8 v9 v10 b10210 (anL w_1 w_2 p0 p1 [v7, v8] .null) (1 : Int32))) rfl ?_
              show Sp p e below T10265 (mkF m 344 (lt28 p0 p1 p2 p3 p4 v5 b5 v7 v8 v9 v10 b10210 (anL w_1 w_2 p0 p1 [v7, v8] .null) (1 : Int32)) []) _
              exact kt
            exact ⟨_, _, _, (1 : Int32), X10265.more (by decide) (by show ((10 + sl4074) + (sl8911 + 2)) ≤ ((10 + sl4074) + (sl8911 + 2)); omega), e10265, O10214, N10265, (by simp [anyM, hc10267]), pre10273⟩
        obtain ⟨T10274, h10274, L10274, z10274, X10274, e10274, O10274, N10274, hz_10274, pre10274⟩ : ∃ (T10274 : State) (h10274 : Heap) (L10274 : List Loc) (z10274 : Int32), Stand p l e room_1 s m #[(.int p0), (.int p1), (.int p2), (.int p3), (.int p4)] below meth c T10274 L10274 14 ((10 + sl4074) + (sl8911 + 2)) ∧ T10274.heap = h10274 ∧ Old Z n0 h10274 ∧ Fr n0 L10274 ∧ z10274 = anyM p0 [v7, v8] ∧ Cm p e below E0 (T10274.setTop (mkF m 395 (lt29 p0 p1 p2 p3 p4 v5 b5 v7 v8 v9 v10 b10210 (anL w_1 w_2 p0 p1 [v7, v8] .null) z10264 z10274) [])) := by
          obtain ⟨_, _, ⟨T10275, L10275, k10275, n10275⟩, -, X10275, ⟨Lc10275, hQ10275, l10275, y10275, z10275⟩, st10275⟩ := Jvm.LawKit.callS X10264 hx (y := Y40) hown (mvT hZ (hw _ (tk 68 rfl))) (mvT hZ (hw _ (tk 69 rfl))) (mvT hZ (hw _ (tk 70 rfl))) (mvT hZ (hw _ (tk 71 rfl))) (by decide) (backOf (W := 0) (rm12 l Z a0 hw hv [] w_1 w_2 hS0 p0 v7 h10264 n0 O10264) hZ (hw _ (tk 71 rfl)) (hw _ (tk 70 rfl)) (by decide) (by decide)) (g := (mkF m 352 (lt28 p0 p1 p2 p3 p4 v5 b5 v7 v8 v9 v10 b10210 (anL w_1 w_2 p0 p1 [v7, v8] .null) z10264) [(.int v7), (.int p0)])) rfl (by rw [hml]; rfl) (argsL := [(.int p0), (.int v7)]) (rest := []) (lenOf pd_7 rfl) rfl (by show 2 * 0 + _ ≤ _; exact Nat.le_of_eq rfl) (hb hby at_352) (fun _ _ => ⟨rfl, e10264, (by decide : 14 + 0 ≤ _), (by show ((10 + sl4074) + (sl8911 + 2)) + 0 ≤ 1600; omega)⟩)
          dsimp only [Pt.U, Pt.locs, Pt.cells, Pt.slots] at X10275 l10275 y10275 z10275 st10275 hQ10275
          subst l10275 y10275 z10275
          obtain ⟨rv10275, N10275q, e10275⟩ := hQ10275
          subst rv10275
          have N10275 := Fr.app N10264 N10275q
          have pre10276 : Cm p e below E0 (T10275.setTop (mkF m 355 (lt28 p0 p1 p2 p3 p4 v5 b5 v7 v8 v9 v10 b10210 (anL w_1 w_2 p0 p1 [v7, v8] .null) z10264) [(.int (sp12 p0 v7))])) := fun t kt => by
            refine pre10264 t ?_
            show Sp p e below T10264 (mkF m 344 (lt28 p0 p1 p2 p3 p4 v5 b5 v7 v8 v9 v10 b10210 (anL w_1 w_2 p0 p1 [v7, v8] .null) z10264) []) _
            refine XS.iload X10264.here hx rfl (hb hby at_344) rfl ?_
            show Sp p e below T10264 (mkF m 346 (lt28 p0 p1 p2 p3 p4 v5 b5 v7 v8 v9 v10 b10210 (anL w_1 w_2 p0 p1 [v7, v8] .null) z10264) [(.int v10)]) _
            refine XS.ifNo X10264.here hx rfl (hb hby at_346) rfl ((if0 _ _).trans (tlt (by rw [hc10209] <;> decide : ((0 : Int32) < v10))).2.2.2) ?_
            show Sp p e below T10264 (mkF m 349 (lt28 p0 p1 p2 p3 p4 v5 b5 v7 v8 v9 v10 b10210 (anL w_1 w_2 p0 p1 [v7, v8] .null) z10264) []) _
            refine XS.iloadN X10264.here hx rfl (hb hby at_349) rfl ?_
            refine XS.iload X10264.here hx rfl (hb hby at_350) rfl ?_
            show Sp p e below T10264 (mkF m 352 (lt28 p0 p1 p2 p3 p4 v5 b5 v7 v8 v9 v10 b10210 (anL w_1 w_2 p0 p1 [v7, v8] .null) z10264) [(.int v7), (.int p0)]) _
            refine st10275 _ ?_
            show Sp p e below T10275 (mkF m 355 (lt28 p0 p1 p2 p3 p4 v5 b5 v7 v8 v9 v10 b10210 (anL w_1 w_2 p0 p1 [v7, v8] .null) z10264) [(.int (sp12 p0 v7))]) _
            exact kt
          by_cases hc10277 : (sp12 p0 v7) = (0 : Int32)
          · obtain ⟨_, _, ⟨T10278, L10278, k10278, n10278⟩, -, X10278, ⟨Lc10278, hQ10278, l10278, y10278, z10278⟩, st10278⟩ := Jvm.LawKit.callS X10275 hx (y := Y40) hown (mvT hZ (hw _ (tk 68 rfl))) (mvT hZ (hw _ (tk 69 rfl))) (mvT hZ (hw _ (tk 70 rfl))) (mvT hZ (hw _ (tk 71 rfl))) (by decide) (backOf (W := 0) (rm12 l Z a0 hw hv [] w_1 w_2 hS0 p0 v8 h10264 n0 O10264) hZ (hw _ (tk 71 rfl)) (hw _ (tk 70 rfl)) (by decide) (by decide)) (g := (mkF m 367 (lt28 p0 p1 p2 p3 p4 v5 b5 v7 v8 v9 v10 b10210 (anL w_1 w_2 p0 p1 [v7, v8] .null) z10264) [(.int v8), (.int p0)])) rfl (by rw [hml]; rfl) (argsL := [(.int p0), (.int v8)]) (rest := []) (lenOf pd_7 rfl) rfl (by show 2 * 0 + _ ≤ _; exact Nat.le_of_eq rfl) (hb hby at_367) (fun _ _ => ⟨rfl, e10275, (by decide : 14 + 0 ≤ _), (by show ((10 + sl4074) + (sl8911 + 2)) + 0 ≤ 1600; omega)⟩)
            dsimp only [Pt.U, Pt.locs, Pt.cells, Pt.slots] at X10278 l10278 y10278 z10278 st10278 hQ10278
            subst l10278 y10278 z10278
            obtain ⟨rv10278, N10278q, e10278⟩ := hQ10278
            subst rv10278
            have N10278 := Fr.app N10275 N10278q
            have pre10279 : Cm p e below E0 (T10278.setTop (mkF m 370 (lt28 p0 p1 p2 p3 p4 v5 b5 v7 v8 v9 v10 b10210 (anL w_1 w_2 p0 p1 [v7, v8] .null) z10264) [(.int (sp12 p0 v8))])) := fun t kt => by
              refine pre10276 t ?_
              show Sp p e below T10275 (mkF m 355 (lt28 p0 p1 p2 p3 p4 v5 b5 v7 v8 v9 v10 b10210 (anL w_1 w_2 p0 p1 [v7, v8] .null) z10264) [(.int (sp12 p0 v7))]) _
              refine XS.ifNo X10275.here hx rfl (hb hby at_355) rfl ((if0 _ _).trans (teq hc10277).2) ?_
              show Sp p e below T10275 (mkF m 358 (lt28 p0 p1 p2 p3 p4 v5 b5 v7 v8 v9 v10 b10210 (anL w_1 w_2 p0 p1 [v7, v8] .null) z10264) []) _
              refine XS.iload X10275.here hx rfl (hb hby at_358) rfl ?_
              refine XS.iconst X10275.here hx rfl (hb hby at_360) ?_
              show Sp p e below T10275 (mkF m 361 (lt28 p0 p1 p2 p3 p4 v5 b5 v7 v8 v9 v10 b10210 (anL w_1 w_2 p0 p1 [v7, v8] .null) z10264) [(.int (1 : Int32)), (.int v10)]) _
              refine XS.icmpNo X10275.here hx rfl (hb hby at_361) rfl (tlt (by rw [hc10209] <;> decide : ((1 : Int32) < v10))).2.2.2 ?_
              show Sp p e below T10275 (mkF m 364 (lt28 p0 p1 p2 p3 p4 v5 b5 v7 v8 v9 v10 b10210 (anL w_1 w_2 p0 p1 [v7, v8] .null) z10264) []) _
              refine XS.iloadN X10275.here hx rfl (hb hby at_364) rfl ?_
              refine XS.iload X10275.here hx rfl (hb hby at_365) rfl ?_
              show Sp p e below T10275 (mkF m 367 (lt28 p0 p1 p2 p3 p4 v5 b5 v7 v8 v9 v10 b10210 (anL w_1 w_2 p0 p1 [v7, v8] .null) z10264) [(.int v8), (.int p0)]) _
              refine st10278 _ ?_
              show Sp p e below T10278 (mkF m 370 (lt28 p0 p1 p2 p3 p4 v5 b5 v7 v8 v9 v10 b10210 (anL w_1 w_2 p0 p1 [v7, v8] .null) z10264) [(.int (sp12 p0 v8))]) _
              exact kt
            by_cases hc10280 : (sp12 p0 v8) = (0 : Int32)
            · have pre10281 : Cm p e below E0 (T10278.setTop (mkF m 395 (lt29 p0 p1 p2 p3 p4 v5 b5 v7 v8 v9 v10 b10210 (anL w_1 w_2 p0 p1 [v7, v8] .null) z10264 (0 : Int32)) [])) := fun t kt => by
                refine pre10279 t ?_
                show Sp p e below T10278 (mkF m 370 (lt28 p0 p1 p2 p3 p4 v5 b5 v7 v8 v9 v10 b10210 (anL w_1 w_2 p0 p1 [v7, v8] .null) z10264) [(.int (sp12 p0 v8))]) _
                refine XS.ifNo X10278.here hx rfl (hb hby at_370) rfl ((if0 _ _).trans (teq hc10280).2) ?_
                show Sp p e below T10278 (mkF m 373 (lt28 p0 p1 p2 p3 p4 v5 b5 v7 v8 v9 v10 b10210 (anL w_1 w_2 p0 p1 [v7, v8] .null) z10264) []) _
                refine XS.iload X10278.here hx rfl (hb hby at_373) rfl ?_
                refine XS.iconst X10278.here hx rfl (hb hby at_375) ?_
                show Sp p e below T10278 (mkF m 376 (lt28 p0 p1 p2 p3 p4 v5 b5 v7 v8 v9 v10 b10210 (anL w_1 w_2 p0 p1 [v7, v8] .null) z10264) [(.int (2 : Int32)), (.int v10)]) _
                refine XS.icmpYes X10278.here hx rfl (pc0 := 376) (pc' := 392) rfl (hb hby at_376) rfl (flt (by rw [hc10209] <;> decide : ¬ ((2 : Int32) < v10))).2.2.2 (by decide) (by decide) ?_
                show Sp p e below T10278 (mkF m 392 (lt28 p0 p1 p2 p3 p4 v5 b5 v7 v8 v9 v10 b10210 (anL w_1 w_2 p0 p1 [v7, v8] .null) z10264) []) _
                refine XS.iconst X10278.here hx rfl (hb hby at_392) ?_
                refine XS.istore X10278.here hx rfl (hb hby at_393) rfl (l' := (lt29 p0 p1 p2 p3 p4 v5 b5 v7 v8 v9 v10 b10210 (anL w_1 w_2 p0 p1 [v7, v8] .null) z10264 (0 : Int32))) rfl ?_
                show Sp p e below T10278 (mkF m 395 (lt29 p0 p1 p2 p3 p4 v5 b5 v7 v8 v9 v10 b10210 (anL w_1 w_2 p0 p1 [v7, v8] .null) z10264 (0 : Int32)) []) _
                exact kt
              exact ⟨_, _, _, (0 : Int32), X10278.more (by decide) (by show ((10 + sl4074) + (sl8911 + 2)) ≤ ((10 + sl4074) + (sl8911 + 2)); omega), e10278, O10264, N10278, (by simp [anyM, hc10277, hc10280]), pre10281⟩
            · have pre10282 : Cm p e below E0 (T10278.setTop (mkF m 395 (lt29 p0 p1 p2 p3 p4 v5 b5 v7 v8 v9 v10 b10210 (anL w_1 w_2 p0 p1 [v7, v8] .null) z10264 (1 : Int32)) [])) := fun t kt => by
                refine pre10279 t ?_
                show Sp p e below T10278 (mkF m 370 (lt28 p0 p1 p2 p3 p4 v5 b5 v7 v8 v9 v10 b10210 (anL w_1 w_2 p0 p1 [v7, v8] .null) z10264) [(.int (sp12 p0 v8))]) _
                refine XS.ifYes X10278.here hx rfl (pc0 := 370) (pc' := 388) rfl (hb hby at_370) rfl ((if0 _ _).trans (feq hc10280).2) (by decide) (by decide) ?_
                show Sp p e below T10278 (mkF m 388 (lt28 p0 p1 p2 p3 p4 v5 b5 v7 v8 v9 v10 b10210 (anL w_1 w_2 p0 p1 [v7, v8] .null) z10264) []) _
                refine XS.iconst X10278.here hx rfl (hb hby at_388) ?_
                show Sp p e below T10278 (mkF m 389 (lt28 p0 p1 p2 p3 p4 v5 b5 v7 v8 v9 v10 b10210 (anL w_1 w_2 p0 p1 [v7, v8] .null) z10264) [(.int (1 : Int32))]) _
                refine XS.goto X10278.here hx rfl (pc0 := 389) (pc' := 393) rfl (hb hby at_389) (by decide) (by decide) ?_
                show Sp p e below T10278 (mkF m 393 (lt28 p0 p1 p2 p3 p4 v5 b5 v7 v8 v9 v10 b10210 (anL w_1 w_2 p0 p1 [v7, v8] .null) z10264) [(.int (1 : Int32))]) _
                refine XS.istore X10278.here hx rfl (hb hby at_393) rfl (l' := (lt29 p0 p1 p2 p3 p4 v5 b5 v7 v8 v9 v10 b10210 (anL w_1 w_2 p0 p1 [v7, v8] .null) z10264 (1 : Int32))) rfl ?_
                show Sp p e below T10278 (mkF m 395 (lt29 p0 p1 p2 p3 p4 v5 b5 v7 v8 v9 v10 b10210 (anL w_1 w_2 p0 p1 [v7, v8] .null) z10264 (1 : Int32)) []) _
                exact kt
              exact ⟨_, _, _, (1 : Int32), X10278.more (by decide) (by show ((10 + sl4074) + (sl8911 + 2)) ≤ ((10 + sl4074) + (sl8911 + 2)); omega), e10278, O10264, N10278, (by simp [anyM, hc10277, hc10280]), pre10282⟩
          · have pre10283 : Cm p e below E0 (T10275.setTop (mkF m 395 (lt29 p0 p1 p2 p3 p4 v5 b5 v7 v8 v9 v10 b10210 (anL w_1 w_2 p0 p1 [v7, v8] .null) z10264 (1 : Int32)) [])) := fun t kt => by
              refine pre10276 t ?_
              show Sp p e below T10275 (mkF m 355 (lt28 p0 p1 p2 p3 p4 v5 b5 v7 v8 v9 v10 b10210 (anL w_1 w_2 p0 p1 [v7, v8] .null) z10264) [(.int (sp12 p0 v7))]) _
              refine XS.ifYes X10275.here hx rfl (pc0 := 355) (pc' := 388) rfl (hb hby at_355) rfl ((if0 _ _).trans (feq hc10277).2) (by decide) (by decide) ?_
              show Sp p e below T10275 (mkF m 388 (lt28 p0 p1 p2 p3 p4 v5 b5 v7 v8 v9 v10 b10210 (anL w_1 w_2 p0 p1 [v7, v8] .null) z10264) []) _
              refine XS.iconst X10275.here hx rfl (hb hby at_388) ?_
              show Sp p e below T10275 (mkF m 389 (lt28 p0 p1 p2 p3 p4 v5 b5 v7 v8 v9 v10 b10210 (anL w_1 w_2 p0 p1 [v7, v8] .null) z10264) [(.int (1 : Int32))]) _
              refine XS.goto X10275.here hx rfl (pc0 := 389) (pc' := 393) rfl (hb hby at_389) (by decide) (by decide) ?_
              show Sp p e below T10275 (mkF m 393 (lt28 p0 p1 p2 p3 p4 v5 b5 v7 v8 v9 v10 b10210 (anL w_1 w_2 p0 p1 [v7, v8] .null) z10264) [(.int (1 : Int32))]) _
              refine XS.istore X10275.here hx rfl (hb hby at_393) rfl (l' := (lt29 p0 p1 p2 p3 p4 v5 b5 v7 v8 v9 v10 b10210 (anL w_1 w_2 p0 p1 [v7, v8] .null) z10264 (1 : Int32))) rfl ?_
              show Sp p e below T10275 (mkF m 395 (lt29 p0 p1 p2 p3 p4 v5 b5 v7 v8 v9 v10 b10210 (anL w_1 w_2 p0 p1 [v7, v8] .null) z10264 (1 : Int32)) []) _
              exact kt
            exact ⟨_, _, _, (1 : Int32), X10275.more (by decide) (by show ((10 + sl4074) + (sl8911 + 2)) ≤ ((10 + sl4074) + (sl8911 + 2)); omega), e10275, O10264, N10275, (by simp [anyM, hc10277]), pre10283⟩
        have pre10284 : Cm p e below E0 (T10274.setTop (mkF m 397 (lt29 p0 p1 p2 p3 p4 v5 b5 v7 v8 v9 v10 b10210 (anL w_1 w_2 p0 p1 [v7, v8] .null) z10264 z10274) [(.int z10264)])) := fun t kt => by
          refine pre10274 t ?_
          show Sp p e below T10274 (mkF m 395 (lt29 p0 p1 p2 p3 p4 v5 b5 v7 v8 v9 v10 b10210 (anL w_1 w_2 p0 p1 [v7, v8] .null) z10264 z10274) []) _
          refine XS.iload X10274.here hx rfl (hb hby at_395) rfl ?_
          show Sp p e below T10274 (mkF m 397 (lt29 p0 p1 p2 p3 p4 v5 b5 v7 v8 v9 v10 b10210 (anL w_1 w_2 p0 p1 [v7, v8] .null) z10264 z10274) [(.int z10264)]) _
          exact kt
        by_cases hc10285 : z10264 = (0 : Int32)
        · have pre10286 : Cm p e below E0 (T10274.setTop (mkF m 408 (lt29 p0 p1 p2 p3 p4 v5 b5 v7 v8 v9 v10 b10210 (anL w_1 w_2 p0 p1 [v7, v8] .null) z10264 z10274) [(.int z10274)])) := fun t kt => by
            refine pre10284 t ?_
            show Sp p e below T10274 (mkF m 397 (lt29 p0 p1 p2 p3 p4 v5 b5 v7 v8 v9 v10 b10210 (anL w_1 w_2 p0 p1 [v7, v8] .null) z10264 z10274) [(.int z10264)]) _
            refine XS.ifYes X10274.here hx rfl (pc0 := 397) (pc' := 406) rfl (hb hby at_397) rfl ((if0 _ _).trans (teq hc10285).1) (by decide) (by decide) ?_
            show Sp p e below T10274 (mkF m 406 (lt29 p0 p1 p2 p3 p4 v5 b5 v7 v8 v9 v10 b10210 (anL w_1 w_2 p0 p1 [v7, v8] .null) z10264 z10274) []) _
            refine XS.iload X10274.here hx rfl (hb hby at_406) rfl ?_
            show Sp p e below T10274 (mkF m 408 (lt29 p0 p1 p2 p3 p4 v5 b5 v7 v8 v9 v10 b10210 (anL w_1 w_2 p0 p1 [v7, v8] .null) z10264 z10274) [(.int z10274)]) _
            exact kt
          by_cases hc10287 : z10274 = (0 : Int32)
          · obtain ⟨fs, hr, hrun, hended, hW, hsame⟩ := X10274.leave (v := some (.int (1 : Int32))) (fun h => by rw [Bd.returns] at h; cases h)
            refine ⟨_, _, pre10286 _ ?_, hrun, hended, _, _, rfl, ?_, ⟨_, rfl⟩, hW, hsame.mono (by decide) (by show ((10 + sl4074) + (sl8911 + 2)) ≤ 1600; omega)⟩
            · show Sp p e below T10274 (mkF m 408 (lt29 p0 p1 p2 p3 p4 v5 b5 v7 v8 v9 v10 b10210 (anL w_1 w_2 p0 p1 [v7, v8] .null) z10264 z10274) [(.int z10274)]) _
              refine XS.ifYes X10274.here hx rfl (pc0 := 408) (pc' := 417) rfl (hb hby at_408) rfl ((if0 _ _).trans (teq hc10287).1) (by decide) (by decide) ?_
              show Sp p e below T10274 (mkF m 417 (lt29 p0 p1 p2 p3 p4 v5 b5 v7 v8 v9 v10 b10210 (anL w_1 w_2 p0 p1 [v7, v8] .null) z10264 z10274) []) _
              refine XS.aconstNull X10274.here hx rfl (hb hby at_417) ?_
              refine XS.astore X10274.here hx rfl (hb hby at_418) rfl rfl (l' := (lt30 p0 p1 p2 p3 p4 v5 b5 v7 v8 v9 v10 b10210 (anL w_1 w_2 p0 p1 [v7, v8] .null) z10264 z10274)) rfl ?_
              show Sp p e below T10274 (mkF m 420 (lt30 p0 p1 p2 p3 p4 v5 b5 v7 v8 v9 v10 b10210 (anL w_1 w_2 p0 p1 [v7, v8] .null) z10264 z10274) []) _
              refine XS.aload X10274.here hx rfl (hb hby at_420) rfl (anL_ref _ _ _ _ _ rfl) ?_
              refine XS.aload X10274.here hx rfl (hb hby at_422) rfl rfl ?_
              show Sp p e below T10274 (mkF m 424 (lt30 p0 p1 p2 p3 p4 v5 b5 v7 v8 v9 v10 b10210 (anL w_1 w_2 p0 p1 [v7, v8] .null) z10264 z10274) [.null, (anL w_1 w_2 p0 p1 [v7, v8] .null)]) _
              refine Jvm.RoadKit.acmp (g := (mkF m 424 (lt30 p0 p1 p2 p3 p4 v5 b5 v7 v8 v9 v10 b10210 (anL w_1 w_2 p0 p1 [v7, v8] .null) z10264 z10274) [.null, (anL w_1 w_2 p0 p1 [v7, v8] .null)])) X10274 hx rfl (anL_ref _ _ _ _ _ rfl) rfl (pc0 := 424) (pc' := 427) (same := true) rfl (hb hby at_424) rfl (decide_eq_true (by rw [own_anL, ← hz_10264, ← hz_10274]; simp [hc10285, hc10287] : (anL w_1 w_2 p0 p1 [v7, v8] .null) = .null)) (by decide) (by decide) ?_
              show Sp p e below T10274 (mkF m 427 (lt30 p0 p1 p2 p3 p4 v5 b5 v7 v8 v9 v10 b10210 (anL w_1 w_2 p0 p1 [v7, v8] .null) z10264 z10274) []) _
              refine XS.iconst X10274.here hx rfl (hb hby at_427) ?_
              show Sp p e below T10274 (mkF m 428 (lt30 p0 p1 p2 p3 p4 v5 b5 v7 v8 v9 v10 b10210 (anL w_1 w_2 p0 p1 [v7, v8] .null) z10264 z10274) [(.int (1 : Int32))]) _
              refine XS.goto X10274.here hx rfl (pc0 := 428) (pc' := 432) rfl (hb hby at_428) (by decide) (by decide) ?_
              show Sp p e below T10274 (mkF m 432 (lt30 p0 p1 p2 p3 p4 v5 b5 v7 v8 v9 v10 b10210 (anL w_1 w_2 p0 p1 [v7, v8] .null) z10264 z10274) [(.int (1 : Int32))]) _
              exact retN X10274 hx (t := .boolean) Bd.returns (by simp) (hb hby at_432) hr
            · show Q0 Z w_1 w_2 p0 p1 p2 p3 p4 h0 n0 _ T10274.heap _
              rw [e10274]
              exact ⟨rfl, N10274, trivial⟩
          · obtain ⟨T10288, X10288, e10288, st10288⟩ := getS2 X10274 hx hZ hown (host := "") (Or.inl (hw _ (tk 94 rfl))) Via.refl e10274 (S_2.ext O10274.2) (g := (mkF m 411 (lt29 p0 p1 p2 p3 p4 v5 b5 v7 v8 v9 v10 b10210 (anL w_1 w_2 p0 p1 [v7, v8] .null) z10264 z10274) [])) rfl (hb hby at_411)
            obtain ⟨fs, hr, hrun, hended, hW, hsame⟩ := X10288.leave (v := some (.int (1 : Int32))) (fun h => by rw [Bd.returns] at h; cases h)
            refine ⟨_, _, pre10286 _ ?_, hrun, hended, _, _, rfl, ?_, ⟨_, rfl⟩, hW, hsame.mono (by decide) (by show ((10 + sl4074) + (sl8911 + 2)) ≤ 1600; omega)⟩
            · show Sp p e below T10274 (mkF m 408 (lt29 p0 p1 p2 p3 p4 v5 b5 v7 v8 v9 v10 b10210 (anL w_1 w_2 p0 p1 [v7, v8] .null) z10264 z10274) [(.int z10274)]) _
              refine XS.ifNo X10274.here hx rfl (hb hby at_408) rfl ((if0 _ _).trans (feq hc10287).1) ?_
              show Sp p e below T10274 (mkF m 411 (lt29 p0 p1 p2 p3 p4 v5 b5 v7 v8 v9 v10 b10210 (anL w_1 w_2 p0 p1 [v7, v8] .null) z10264 z10274) []) _
              refine st10288 _ ?_
              show Sp p e below T10288 (mkF m 414 (lt29 p0 p1 p2 p3 p4 v5 b5 v7 v8 v9 v10 b10210 (anL w_1 w_2 p0 p1 [v7, v8] .null) z10264 z10274) [(.ref w_2)]) _
              refine XS.goto X10288.here hx rfl (pc0 := 414) (pc' := 418) rfl (hb hby at_414) (by decide) (by decide) ?_
              show Sp p e below T10288 (mkF m 418 (lt29 p0 p1 p2 p3 p4 v5 b5 v7 v8 v9 v10 b10210 (anL w_1 w_2 p0 p1 [v7, v8] .null) z10264 z10274) [(.ref w_2)]) _
              refine XS.astore X10288.here hx rfl (hb hby at_418) rfl rfl (l' := (lt31 p0 p1 p2 p3 p4 v5 b5 v7 v8 v9 v10 b10210 (anL w_1 w_2 p0 p1 [v7, v8] .null) z10264 z10274 w_2)) rfl ?_
              refine XS.aload X10288.here hx rfl (hb hby at_420) rfl (anL_ref _ _ _ _ _ rfl) ?_
              show Sp p e below T10288 (mkF m 422 (lt31 p0 p1 p2 p3 p4 v5 b5 v7 v8 v9 v10 b10210 (anL w_1 w_2 p0 p1 [v7, v8] .null) z10264 z10274 w_2) [(anL w_1 w_2 p0 p1 [v7, v8] .null)]) _
              refine XS.aload X10288.here hx rfl (hb hby at_422) rfl rfl ?_
              show Sp p e below T10288 (mkF m 424 (lt31 p0 p1 p2 p3 p4 v5 b5 v7 v8 v9 v10 b10210 (anL w_1 w_2 p0 p1 [v7, v8] .null) z10264 z10274 w_2) [(.ref w_2), (anL w_1 w_2 p0 p1 [v7, v8] .null)]) _
              refine Jvm.RoadKit.acmp (g := (mkF m 424 (lt31 p0 p1 p2 p3 p4 v5 b5 v7 v8 v9 v10 b10210 (anL w_1 w_2 p0 p1 [v7, v8] .null) z10264 z10274 w_2) [(.ref w_2), (anL w_1 w_2 p0 p1 [v7, v8] .null)])) X10288 hx rfl (anL_ref _ _ _ _ _ rfl) rfl (pc0 := 424) (pc' := 427) (same := true) rfl (hb hby at_424) rfl (decide_eq_true (by rw [own_anL, ← hz_10264, ← hz_10274]; simp [hc10285, hc10287] : (anL w_1 w_2 p0 p1 [v7, v8] .null) = (.ref w_2))) (by decide) (by decide) ?_
              show Sp p e below T10288 (mkF m 427 (lt31 p0 p1 p2 p3 p4 v5 b5 v7 v8 v9 v10 b10210 (anL w_1 w_2 p0 p1 [v7, v8] .null) z10264 z10274 w_2) []) _
              refine XS.iconst X10288.here hx rfl (hb hby at_427) ?_
              show Sp p e below T10288 (mkF m 428 (lt31 p0 p1 p2 p3 p4 v5 b5 v7 v8 v9 v10 b10210 (anL w_1 w_2 p0 p1 [v7, v8] .null) z10264 z10274 w_2) [(.int (1 : Int32))]) _
              refine XS.goto X10288.here hx rfl (pc0 := 428) (pc' := 432) rfl (hb hby at_428) (by decide) (by decide) ?_
              show Sp p e below T10288 (mkF m 432 (lt31 p0 p1 p2 p3 p4 v5 b5 v7 v8 v9 v10 b10210 (anL w_1 w_2 p0 p1 [v7, v8] .null) z10264 z10274 w_2) [(.int (1 : Int32))]) _
              exact retN X10288 hx (t := .boolean) Bd.returns (by simp) (hb hby at_432) hr
            · show Q0 Z w_1 w_2 p0 p1 p2 p3 p4 h0 n0 _ T10288.heap _
              rw [e10288]
              exact ⟨rfl, N10274, trivial⟩
        · obtain ⟨T10289, X10289, e10289, st10289⟩ := getS2 X10274 hx hZ hown (host := "") (Or.inl (hw _ (tk 91 rfl))) Via.refl e10274 (S_1.ext O10274.2) (g := (mkF m 400 (lt29 p0 p1 p2 p3 p4 v5 b5 v7 v8 v9 v10 b10210 (anL w_1 w_2 p0 p1 [v7, v8] .null) z10264 z10274) [])) rfl (hb hby at_400)
          obtain ⟨fs, hr, hrun, hended, hW, hsame⟩ := X10289.leave (v := some (.int (1 : Int32))) (fun h => by rw [Bd.returns] at h; cases h)
          refine ⟨_, _, pre10284 _ ?_, hrun, hended, _, _, rfl, ?_, ⟨_, rfl⟩, hW, hsame.mono (by decide) (by show ((10 + sl4074) + (sl8911 + 2)) ≤ 1600; omega)⟩
          · show Sp p e below T10274 (mkF m 397 (lt29 p0 p1 p2 p3 p4 v5 b5 v7 v8 v9 v10 b10210 (anL w_1 w_2 p0 p1 [v7, v8] .null) z10264 z10274) [(.int z10264)]) _
            refine XS.ifNo X10274.here hx rfl (hb hby at_397) rfl ((if0 _ _).trans (feq hc10285).1) ?_
            show Sp p e below T10274 (mkF m 400 (lt29 p0 p1 p2 p3 p4 v5 b5 v7 v8 v9 v10 b10210 (anL w_1 w_2 p0 p1 [v7, v8] .null) z10264 z10274) []) _
            refine st10289 _ ?_
            show Sp p e below T10289 (mkF m 403 (lt29 p0 p1 p2 p3 p4 v5 b5 v7 v8 v9 v10 b10210 (anL w_1 w_2 p0 p1 [v7, v8] .null) z10264 z10274) [(.ref w_1)]) _
            refine XS.goto X10289.here hx rfl (pc0 := 403) (pc' := 418) rfl (hb hby at_403) (by decide) (by decide) ?_
            show Sp p e below T10289 (mkF m 418 (lt29 p0 p1 p2 p3 p4 v5 b5 v7 v8 v9 v10 b10210 (anL w_1 w_2 p0 p1 [v7, v8] .null) z10264 z10274) [(.ref w_1)]) _
            refine XS.astore X10289.here hx rfl (hb hby at_418) rfl rfl (l' := (lt31 p0 p1 p2 p3 p4 v5 b5 v7 v8 v9 v10 b10210 (anL w_1 w_2 p0 p1 [v7, v8] .null) z10264 z10274 w_1)) rfl ?_
            refine XS.aload X10289.here hx rfl (hb hby at_420) rfl (anL_ref _ _ _ _ _ rfl) ?_
            show Sp p e below T10289 (mkF m 422 (lt31 p0 p1 p2 p3 p4 v5 b5 v7 v8 v9 v10 b10210 (anL w_1 w_2 p0 p1 [v7, v8] .null) z10264 z10274 w_1) [(anL w_1 w_2 p0 p1 [v7, v8] .null)]) _
            refine XS.aload X10289.here hx rfl (hb hby at_422) rfl rfl ?_
            show Sp p e below T10289 (mkF m 424 (lt31 p0 p1 p2 p3 p4 v5 b5 v7 v8 v9 v10 b10210 (anL w_1 w_2 p0 p1 [v7, v8] .null) z10264 z10274 w_1) [(.ref w_1), (anL w_1 w_2 p0 p1 [v7, v8] .null)]) _
            refine Jvm.RoadKit.acmp (g := (mkF m 424 (lt31 p0 p1 p2 p3 p4 v5 b5 v7 v8 v9 v10 b10210 (anL w_1 w_2 p0 p1 [v7, v8] .null) z10264 z10274 w_1) [(.ref w_1), (anL w_1 w_2 p0 p1 [v7, v8] .null)])) X10289 hx rfl (anL_ref _ _ _ _ _ rfl) rfl (pc0 := 424) (pc' := 427) (same := true) rfl (hb hby at_424) rfl (decide_eq_true (by rw [own_anL, ← hz_10264, ← hz_10274]; simp [hc10285] : (anL w_1 w_2 p0 p1 [v7, v8] .null) = (.ref w_1))) (by decide) (by decide) ?_
            show Sp p e below T10289 (mkF m 427 (lt31 p0 p1 p2 p3 p4 v5 b5 v7 v8 v9 v10 b10210 (anL w_1 w_2 p0 p1 [v7, v8] .null) z10264 z10274 w_1) []) _
            refine XS.iconst X10289.here hx rfl (hb hby at_427) ?_
            show Sp p e below T10289 (mkF m 428 (lt31 p0 p1 p2 p3 p4 v5 b5 v7 v8 v9 v10 b10210 (anL w_1 w_2 p0 p1 [v7, v8] .null) z10264 z10274 w_1) [(.int (1 : Int32))]) _
            refine XS.goto X10289.here hx rfl (pc0 := 428) (pc' := 432) rfl (hb hby at_428) (by decide) (by decide) ?_
            show Sp p e below T10289 (mkF m 432 (lt31 p0 p1 p2 p3 p4 v5 b5 v7 v8 v9 v10 b10210 (anL w_1 w_2 p0 p1 [v7, v8] .null) z10264 z10274 w_1) [(.int (1 : Int32))]) _
            exact retN X10289 hx (t := .boolean) Bd.returns (by simp) (hb hby at_432) hr
          · show Q0 Z w_1 w_2 p0 p1 p2 p3 p4 h0 n0 _ T10289.heap _
            rw [e10289]
            exact ⟨rfl, N10274, trivial⟩
      · have hL10290 : v10 = (3 : Int32) := by
          have r : 0 ≤ (v10).toInt ∧ (v10).toInt < 4 := r_v10
          have q0 := own_ne hc10125 (n := 0) (by decide)
          have q1 := own_ne hc10147 (n := 1) (by decide)
          have q2 := own_ne hc10209 (n := 2) (by decide)
          exact own_eq (n := 3) (by decide) (by omega)
        obtain ⟨T10291, h10291, k10291, X10291, e10291, E10291, A10291, st10291⟩ := newP X8911 hx hZ (hw _ (tk 57 rfl)) e8911 (g := (mkF m 256 (lt14 p0 p1 p2 p3 p4 v5 b5 v7 v8 v9 v10) [(.int (3 : Int32))])) rfl (hb hby at_256) rfl (by decide) (cap := 3) (by decide) (by decide) (by decide) (by show ((10 + sl4074) + sl8911) + 3 ≤ 1600; omega)
        obtain ⟨b10291, g10291⟩ : ∃ z, z = h8911.size := ⟨_, rfl⟩
        rw [← g10291] at A10291 st10291
        have g_b10291 : n0 ≤ b10291 := Nat.le_trans (own_old O8911) (Nat.le_of_eq g10291.symm)
        have ne_b5_b10291 : b5 ≠ b10291 := Nat.ne_of_lt (Nat.lt_of_lt_of_le c8911_0.lt (Nat.le_of_eq g10291.symm))
        have ne_b64_b10291 : b64 ≠ b10291 := Nat.ne_of_lt (Nat.lt_of_lt_of_le c8911_3.lt (Nat.le_of_eq g10291.symm))
        have ne_w_4074_b10291 : w_4074 ≠ b10291 := Nat.ne_of_lt (Nat.lt_of_lt_of_le c8911_7.lt (Nat.le_of_eq g10291.symm))
        have ne_b67_b10291 : b67 ≠ b10291 := Nat.ne_of_lt (Nat.lt_of_lt_of_le c8911_8.lt (Nat.le_of_eq g10291.symm))
        have ne_w_8911_b10291 : w_8911 ≠ b10291 := Nat.ne_of_lt (Nat.lt_of_lt_of_le c8911_12.lt (Nat.le_of_eq g10291.symm))
        have O10291 : Old Z n0 h10291 := O8911.ext E10291
        have V_b10291 : Arv Z h10291 b10291 k10291 .int (3 : Int32) [(.int (0 : Int32)), (.int (0 : Int32)), (.int (0 : Int32))] (.int (0 : Int32)) := (Arv.new A10291 (by decide)).pad (pad_rep [] (.int (0 : Int32)) 3)
        obtain ⟨cl10292, Ar10292, qa10292, Sa10292, Ma10292, Ha10292, Ga10292⟩ := id V_b10291
        have hin10292 : ¬ ((0 : Int32) < 0 ∨ cl10292.slots.size ≤ ((0 : Int32)).toNatClampNeg) := by exact inb_of Sa10292 ⟨by decide, by decide⟩
        obtain ⟨T10293, h10293, X10293, e10293, W10293, st10293⟩ := stI X10291 hx hZ e10291 Ar10292 (j := (0 : Int32)) hin10292 (g := (mkF m 265 (lt14 p0 p1 p2 p3 p4 v5 b5 v7 v8 v9 v10) [(.int (v5 + v7)), (.int (0 : Int32)), (.ref b10291), (.ref b10291)])) rfl rfl (hb hby at_265)
        have V_b10291_10293 : Arv Z h10293 b10291 k10291 .int (3 : Int32) [(.int (v5 + v7)), (.int (0 : Int32)), (.int (0 : Int32))] (.int (0 : Int32)) := Arv.set Ar10292 qa10292 Sa10292 Ma10292 Ha10292 Ga10292 rfl W10293 0 rfl (Nat.le_of_ble_eq_true rfl)
        have O10293 : Old Z n0 h10293 := O10291.wr W10293 g_b10291
        have N10293 := Fr.snoc X10293 N8911 g_b10291
        obtain ⟨cl10294, Ar10294, qa10294, Sa10294, Ma10294, Ha10294, Ga10294⟩ := id V_b10291_10293
        have hin10294 : ¬ ((1 : Int32) < 0 ∨ cl10294.slots.size ≤ ((1 : Int32)).toNatClampNeg) := by exact inb_of Sa10294 ⟨by decide, by decide⟩
        obtain ⟨T10295, h10295, X10295, e10295, W10295, st10295⟩ := stI X10293 hx hZ e10293 Ar10294 (j := (1 : Int32)) hin10294 (g := (mkF m 273 (lt14 p0 p1 p2 p3 p4 v5 b5 v7 v8 v9 v10) [(.int (v5 + v8)), (.int (1 : Int32)), (.ref b10291), (.ref b10291)])) rfl rfl (hb hby at_273)
        have V_b10291_10295 : Arv Z h10295 b10291 k10291 .int (3 : Int32) [(.int (v5 + v7)), (.int (v5 + v8)), (.int (0 : Int32))] (.int (0 : Int32)) := Arv.set Ar10294 qa10294 Sa10294 Ma10294 Ha10294 Ga10294 rfl W10295 1 rfl (Nat.le_of_ble_eq_true rfl)
        have O10295 : Old Z n0 h10295 := O10293.wr W10295 g_b10291
        have N10295 := Fr.snoc X10295 N10293 g_b10291
        obtain ⟨cl10296, Ar10296, qa10296, Sa10296, Ma10296, Ha10296, Ga10296⟩ := id V_b10291_10295
        have hin10296 : ¬ ((2 : Int32) < 0 ∨ cl10296.slots.size ≤ ((2 : Int32)).toNatClampNeg) := by exact inb_of Sa10296 ⟨by decide, by decide⟩
        obtain ⟨T10297, h10297, X10297, e10297, W10297, st10297⟩ := stI X10295 hx hZ e10295 Ar10296 (j := (2 : Int32)) hin10296 (g := (mkF m 281 (lt14 p0 p1 p2 p3 p4 v5 b5 v7 v8 v9 v10) [(.int (v5 + v9)), (.int (2 : Int32)), (.ref b10291), (.ref b10291)])) rfl rfl (hb hby at_281)
        have V_b10291_10297 : Arv Z h10297 b10291 k10291 .int (3 : Int32) [(.int (v5 + v7)), (.int (v5 + v8)), (.int (v5 + v9))] (.int (0 : Int32)) := Arv.set Ar10296 qa10296 Sa10296 Ma10296 Ha10296 Ga10296 rfl W10297 2 rfl (Nat.le_of_ble_eq_true rfl)
        have O10297 : Old Z n0 h10297 := O10295.wr W10297 g_b10291
        have N10297 := Fr.snoc X10297 N10295 g_b10291
        have c10376 := ((((c8911_0.ext E10291).wr W10293).wr W10295).wr W10297)
        have c10377 := ((((c8911_2.ext E10291).other W10293 (Or.inl ne_b5_b10291)).other W10295 (Or.inl ne_b5_b10291)).other W10297 (Or.inl ne_b5_b10291))
        have c10378 := ((((c8911_1.ext E10291).other W10293 (Or.inl ne_b5_b10291)).other W10295 (Or.inl ne_b5_b10291)).other W10297 (Or.inl ne_b5_b10291))
        have c10379 := ((((c8911_8.ext E10291).wr W10293).wr W10295).wr W10297)
        have c10380 := ((((c8911_11.ext E10291).other W10293 (Or.inl ne_b67_b10291)).other W10295 (Or.inl ne_b67_b10291)).other W10297 (Or.inl ne_b67_b10291))
        have c10381 := ((((c8911_9.ext E10291).other W10293 (Or.inl ne_b67_b10291)).other W10295 (Or.inl ne_b67_b10291)).other W10297 (Or.inl ne_b67_b10291))
        have c10382 := ((((c8911_12.ext E10291).other W10293 ne_w_8911_b10291).other W10295 ne_w_8911_b10291).other W10297 ne_w_8911_b10291)
        have c10383 := ((((c8911_3.ext E10291).wr W10293).wr W10295).wr W10297)
        have c10384 := ((((c8911_6.ext E10291).other W10293 (Or.inl ne_b64_b10291)).other W10295 (Or.inl ne_b64_b10291)).other W10297 (Or.inl ne_b64_b10291))
        have c10385 := ((((c8911_4.ext E10291).other W10293 (Or.inl ne_b64_b10291)).other W10295 (Or.inl ne_b64_b10291)).other W10297 (Or.inl ne_b64_b10291))
        have c10386 := ((((c8911_7.ext E10291).other W10293 ne_w_4074_b10291).other W10295 ne_w_4074_b10291).other W10297 ne_w_4074_b10291)
        obtain ⟨cq10387, kq10387, q10387a, q10387b, q10387c⟩ := isOf hZ e10297 c10376
        obtain ⟨_, _, ⟨T10387, L10387, k10387, n10387⟩, -, X10387, ⟨Lc10387, hQ10387, l10387, y10387, z10387⟩, st10387⟩ := X10297.virtualBack hx (y := Y31) (z := Y31) hown (mvT hZ (hw _ (tk 58 rfl))) (mvT hZ (hw _ (tk 59 rfl))) (notFace_of_selects (args := #[]) (mvT hZ (hw _ (tk 61 rfl)))) (mvT hZ (hw _ (tk 61 rfl))) (mvT hZ (hw _ (tk 60 rfl))) (by decide) (backOf (W := 0) (rm10x4 l Z a0 hw hv [] w_1 w_2 hS0 b5 b10291 b67 w_8911 b64 w_4074 u_8911 kk8911 n_8911 F_8911 u_4074 kk4074 n_4074 F_4074 k10291 (v5 + v7) (v5 + v8) (v5 + v9) h10297 n0 O10297 g_b5 g_b67 g_w_8911 g_b64 g_w_4074 g_b10291 c10376 c10377 c10378 c10379 c10380 c10381 c10382 c10383 c10384 c10385 c10386 V_b10291_10297 ne_b5_b67 ne_b5_w_8911 ne_b5_b64 ne_b5_w_4074 ne_b5_b10291 ne_b67_w_8911 (Ne.symm Fx63_19) ne_b67_w_4074 ne_b67_b10291 (Ne.symm ne_b64_w_8911) (Ne.symm ne_w_4074_w_8911) ne_w_8911_b10291 ne_b64_w_4074 ne_b64_b10291 ne_w_4074_b10291 (own_cnn hB (r_v7)) (own_cwn hB (r_v7)) (own_cnn hB (r_v8)) (own_cwn hB (r_v8)) (own_cnn hB (r_v9)) (own_cwn hB (r_v9)) (fun z => by have z := Int32.lt_iff_toInt_lt.mp z; omega) (fun z => by have z := Int32.lt_iff_toInt_lt.mp z; omega)) hZ (hw _ (tk 62 rfl)) (hw _ (tk 2 rfl)) (by decide) (by decide)) q10387a q10387c (g := (mkF m 288 (lt15 p0 p1 p2 p3 p4 v5 b5 v7 v8 v9 v10 b10291) [(.ref b10291), (.ref b5)])) rfl (by rw [hml]; rfl) (Steps.refl _) (argsL := [(.ref b10291)]) (rest := []) (lenOf pd_5 rfl) rfl (by show 2 * 0 + _ ≤ _; exact Nat.le_of_eq rfl) (hb hby at_288) (fun _ _ => ⟨rfl, e10297, (by decide : 14 + 0 ≤ _), (by show ((10 + sl4074) + (sl8911 + 3)) + 0 ≤ 1600; omega)⟩)
        dsimp only [Pt.U, Pt.locs, Pt.cells, Pt.slots] at X10387 l10387 y10387 z10387 st10387 hQ10387
        subst l10387 y10387 z10387
        obtain ⟨rv10387, N10387q, e10387⟩ := hQ10387
        rw [show (sp10x4 w_1 w_2 u_8911 F_8911 u_4074 F_4074 (v5 + v7) (v5 + v8) (v5 + v9)) = (anL w_1 w_2 p0 p1 [v7, v8, v9] .null) from own_ans3 hB hI_4074 hI_8911 (r_v7) (r_v8) (r_v9)] at rv10387
        subst rv10387
        have N10387 := Fr.app N10297 N10387q
        have pre10388 : Cm p e below E0 (T10387.setTop (mkF m 293 (lt27 p0 p1 p2 p3 p4 v5 b5 v7 v8 v9 v10 b10291 (anL w_1 w_2 p0 p1 [v7, v8, v9] .null)) [])) := fun t kt => by
          refine pre10124 t ?_
          show Sp p e below T8911 (mkF m 190 (lt14 p0 p1 p2 p3 p4 v5 b5 v7 v8 v9 v10) []) _
          refine XS.iload X8911.here hx rfl (hb hby at_190) rfl ?_
          show Sp p e below T8911 (mkF m 192 (lt14 p0 p1 p2 p3 p4 v5 b5 v7 v8 v9 v10) [(.int v10)]) _
          refine XS.ifYes X8911.here hx rfl (pc0 := 192) (pc' := 203) rfl (hb hby at_192) rfl ((if0 _ _).trans (feq hc10125).2) (by decide) (by decide) ?_
          show Sp p e below T8911 (mkF m 203 (lt14 p0 p1 p2 p3 p4 v5 b5 v7 v8 v9 v10) []) _
          refine XS.iload X8911.here hx rfl (hb hby at_203) rfl ?_
          refine XS.iconst X8911.here hx rfl (hb hby at_205) ?_
          show Sp p e below T8911 (mkF m 206 (lt14 p0 p1 p2 p3 p4 v5 b5 v7 v8 v9 v10) [(.int (1 : Int32)), (.int v10)]) _
          refine XS.icmpYes X8911.here hx rfl (pc0 := 206) (pc' := 225) rfl (hb hby at_206) rfl (feq hc10147).2 (by decide) (by decide) ?_
          show Sp p e below T8911 (mkF m 225 (lt14 p0 p1 p2 p3 p4 v5 b5 v7 v8 v9 v10) []) _
          refine XS.iload X8911.here hx rfl (hb hby at_225) rfl ?_
          refine XS.iconst X8911.here hx rfl (hb hby at_227) ?_
          show Sp p e below T8911 (mkF m 228 (lt14 p0 p1 p2 p3 p4 v5 b5 v7 v8 v9 v10) [(.int (2 : Int32)), (.int v10)]) _
          refine XS.icmpYes X8911.here hx rfl (pc0 := 228) (pc' := 255) rfl (hb hby at_228) rfl (feq hc10209).2 (by decide) (by decide) ?_
          show Sp p e below T8911 (mkF m 255 (lt14 p0 p1 p2 p3 p4 v5 b5 v7 v8 v9 v10) []) _
          refine XS.iconst X8911.here hx rfl (hb hby at_255) ?_
          show Sp p e below T8911 (mkF m 256 (lt14 p0 p1 p2 p3 p4 v5 b5 v7 v8 v9 v10) [(.int (3 : Int32))]) _
          refine st10291 _ ?_
          show Sp p e below T10291 (mkF m 258 (lt14 p0 p1 p2 p3 p4 v5 b5 v7 v8 v9 v10) [(.ref b10291)]) _
          refine XS.dup X10291.here hx rfl (hb hby at_258) rfl rfl ?_
          refine XS.iconst X10291.here hx rfl (hb hby at_259) ?_
          show Sp p e below T10291 (mkF m 260 (lt14 p0 p1 p2 p3 p4 v5 b5 v7 v8 v9 v10) [(.int (0 : Int32)), (.ref b10291), (.ref b10291)]) _
          refine XS.iload X10291.here hx rfl (hb hby at_260) rfl ?_
          refine XS.iload X10291.here hx rfl (hb hby at_262) rfl ?_
          show Sp p e below T10291 (mkF m 264 (lt14 p0 p1 p2 p3 p4 v5 b5 v7 v8 v9 v10) [(.int v7), (.int v5), (.int (0 : Int32)), (.ref b10291), (.ref b10291)]) _
          refine XS.iadd X10291.here hx rfl (hb hby at_264) rfl ?_
          show Sp p e below T10291 (mkF m 265 (lt14 p0 p1 p2 p3 p4 v5 b5 v7 v8 v9 v10) [(.int (v5 + v7)), (.int (0 : Int32)), (.ref b10291), (.ref b10291)]) _
          refine st10293 _ ?_
          show Sp p e below T10293 (mkF m 266 (lt14 p0 p1 p2 p3 p4 v5 b5 v7 v8 v9 v10) [(.ref b10291)]) _
          refine XS.dup X10293.here hx rfl (hb hby at_266) rfl rfl ?_
          refine XS.iconst X10293.here hx rfl (hb hby at_267) ?_
          show Sp p e below T10293 (mkF m 268 (lt14 p0 p1 p2 p3 p4 v5 b5 v7 v8 v9 v10) [(.int (1 : Int32)), (.ref b10291), (.ref b10291)]) _
          refine XS.iload X10293.here hx rfl (hb hby at_268) rfl ?_
          refine XS.iload X10293.here hx rfl (hb hby at_270) rfl ?_
          show Sp p e below T10293 (mkF m 272 (lt14 p0 p1 p2 p3 p4 v5 b5 v7 v8 v9 v10) [(.int v8), (.int v5), (.int (1 : Int32)), (.ref b10291), (.ref b10291)]) _
          refine XS.iadd X10293.here hx rfl (hb hby at_272) rfl ?_
          show Sp p e below T10293 (mkF m 273 (lt14 p0 p1 p2 p3 p4 v5 b5 v7 v8 v9 v10) [(.int (v5 + v8)), (.int (1 : Int32)), (.ref b10291), (.ref b10291)]) _
          refine st10295 _ ?_
          show Sp p e below T10295 (mkF m 274 (lt14 p0 p1 p2 p3 p4 v5 b5 v7 v8 v9 v10) [(.ref b10291)]) _
          refine XS.dup X10295.here hx rfl (hb hby at_274) rfl rfl ?_
          refine XS.iconst X10295.here hx rfl (hb hby at_275) ?_
          show Sp p e below T10295 (mkF m 276 (lt14 p0 p1 p2 p3 p4 v5 b5 v7 v8 v9 v10) [(.int (2 : Int32)), (.ref b10291), (.ref b10291)]) _
          refine XS.iload X10295.here hx rfl (hb hby at_276) rfl ?_
          refine XS.iload X10295.here hx rfl (hb hby at_278) rfl ?_
          show Sp p e below T10295 (mkF m 280 (lt14 p0 p1 p2 p3 p4 v5 b5 v7 v8 v9 v10) [(.int v9), (.int v5), (.int (2 : Int32)), (.ref b10291), (.ref b10291)]) _
          refine XS.iadd X10295.here hx rfl (hb hby at_280) rfl ?_
          show Sp p e below T10295 (mkF m 281 (lt14 p0 p1 p2 p3 p4 v5 b5 v7 v8 v9 v10) [(.int (v5 + v9)), (.int (2 : Int32)), (.ref b10291), (.ref b10291)]) _
          refine st10297 _ ?_
          show Sp p e below T10297 (mkF m 282 (lt14 p0 p1 p2 p3 p4 v5 b5 v7 v8 v9 v10) [(.ref b10291)]) _
          refine XS.astore X10297.here hx rfl (hb hby at_282) rfl rfl (l' := (lt15 p0 p1 p2 p3 p4 v5 b5 v7 v8 v9 v10 b10291)) rfl ?_
          refine XS.aload X10297.here hx rfl (hb hby at_284) rfl rfl ?_
          show Sp p e below T10297 (mkF m 286 (lt15 p0 p1 p2 p3 p4 v5 b5 v7 v8 v9 v10 b10291) [(.ref b5)]) _
          refine XS.aload X10297.here hx rfl (hb hby at_286) rfl rfl ?_
          show Sp p e below T10297 (mkF m 288 (lt15 p0 p1 p2 p3 p4 v5 b5 v7 v8 v9 v10 b10291) [(.ref b10291), (.ref b5)]) _
          refine st10387.trans ?_
          show Sp p e below T10387 (mkF m 291 (lt15 p0 p1 p2 p3 p4 v5 b5 v7 v8 v9 v10 b10291) [(anL w_1 w_2 p0 p1 [v7, v8, v9] .null)]) _
          refine XS.astoreS X10387.here hx rfl (hb hby at_291) rfl (anL_ref _ _ _ _ _ rfl) (XT.cat1 (anL_ref _ _ _ _ _ rfl)) rfl (Or.inl rfl) ?_
          show Sp p e below T10387 (mkF m 293 (lt27 p0 p1 p2 p3 p4 v5 b5 v7 v8 v9 v10 b10291 (anL w_1 w_2 p0 p1 [v7, v8, v9] .null)) []) _
          exact kt
        have c10389 := ((((c8911_5.ext E10291).other W10293 (Or.inl ne_b64_b10291)).other W10295 (Or.inl ne_b64_b10291)).other W10297 (Or.inl ne_b64_b10291))
        have c10390 := ((((c8911_10.ext E10291).other W10293 (Or.inl ne_b67_b10291)).other W10295 (Or.inl ne_b67_b10291)).other W10297 (Or.inl ne_b67_b10291))
        obtain ⟨T10391, h10391, L10391, z10391, X10391, e10391, O10391, N10391, hz_10391, pre10391⟩ : ∃ (T10391 : State) (h10391 : Heap) (L10391 : List Loc) (z10391 : Int32), Stand p l e room_1 s m #[(.int p0), (.int p1), (.int p2), (.int p3), (.int p4)] below meth c T10391 L10391 14 ((10 + sl4074) + (sl8911 + 3)) ∧ T10391.heap = h10391 ∧ Old Z n0 h10391 ∧ Fr n0 L10391 ∧ z10391 = anyM p1 [v7, v8, v9] ∧ Cm p e below E0 (T10391.setTop (mkF m 344 (lt28 p0 p1 p2 p3 p4 v5 b5 v7 v8 v9 v10 b10291 (anL w_1 w_2 p0 p1 [v7, v8, v9] .null) z10391) [])) := by
          obtain ⟨_, _, ⟨T10392, L10392, k10392, n10392⟩, -, X10392, ⟨Lc10392, hQ10392, l10392, y10392, z10392⟩, st10392⟩ := Jvm.LawKit.callS X10387 hx (y := Y40) hown (mvT hZ (hw _ (tk 68 rfl))) (mvT hZ (hw _ (tk 69 rfl))) (mvT hZ (hw _ (tk 70 rfl))) (mvT hZ (hw _ (tk 71 rfl))) (by decide) (backOf (W := 0) (rm12 l Z a0 hw hv [] w_1 w_2 hS0 p1 v7 h10297 n0 O10297) hZ (hw _ (tk 71 rfl)) (hw _ (tk 70 rfl)) (by decide) (by decide)) (g := (mkF m 301 (lt27 p0 p1 p2 p3 p4 v5 b5 v7 v8 v9 v10 b10291 (anL w_1 w_2 p0 p1 [v7, v8, v9] .null)) [(.int v7), (.int p1)])) rfl (by rw [hml]; rfl) (argsL := [(.int p1), (.int v7)]) (rest := []) (lenOf pd_7 rfl) rfl (by show 2 * 0 + _ ≤ _; exact Nat.le_of_eq rfl) (hb hby at_301) (fun _ _ => ⟨rfl, e10387, (by decide : 14 + 0 ≤ _), (by show ((10 + sl4074) + (sl8911 + 3)) + 0 ≤ 1600; omega)⟩)
          dsimp only [Pt.U, Pt.locs, Pt.cells, Pt.slots] at X10392 l10392 y10392 z10392 st10392 hQ10392
          subst l10392 y10392 z10392
          obtain ⟨rv10392, N10392q, e10392⟩ := hQ10392
          subst rv10392
          have N10392 := Fr.app N10387 N10392q
          have pre10393 : Cm p e below E0 (T10392.setTop (mkF m 304 (lt27 p0 p1 p2 p3 p4 v5 b5 v7 v8 v9 v10 b10291 (anL w_1 w_2 p0 p1 [v7, v8, v9] .null)) [(.int (sp12 p1 v7))])) := fun t kt => by
            refine pre10388 t ?_
            show Sp p e below T10387 (mkF m 293 (lt27 p0 p1 p2 p3 p4 v5 b5 v7 v8 v9 v10 b10291 (anL w_1 w_2 p0 p1 [v7, v8, v9] .null)) []) _
            refine XS.iload X10387.here hx rfl (hb hby at_293) rfl ?_
            show Sp p e below T10387 (mkF m 295 (lt27 p0 p1 p2 p3 p4 v5 b5 v7 v8 v9 v10 b10291 (anL w_1 w_2 p0 p1 [v7, v8, v9] .null)) [(.int v10)]) _
            refine XS.ifNo X10387.here hx rfl (hb hby at_295) rfl ((if0 _ _).trans (tlt (by rw [hL10290] <;> decide : ((0 : Int32) < v10))).2.2.2) ?_
            show Sp p e below T10387 (mkF m 298 (lt27 p0 p1 p2 p3 p4 v5 b5 v7 v8 v9 v10 b10291 (anL w_1 w_2 p0 p1 [v7, v8, v9] .null)) []) _
            refine XS.iloadN X10387.here hx rfl (hb hby at_298) rfl ?_
            refine XS.iload X10387.here hx rfl (hb hby at_299) rfl ?_
            show Sp p e below T10387 (mkF m 301 (lt27 p0 p1 p2 p3 p4 v5 b5 v7 v8 v9 v10 b10291 (anL w_1 w_2 p0 p1 [v7, v8, v9] .null)) [(.int v7), (.int p1)]) _
            refine st10392 _ ?_
            show Sp p e below T10392 (mkF m 304 (lt27 p0 p1 p2 p3 p4 v5 b5 v7 v8 v9 v10 b10291 (anL w_1 w_2 p0 p1 [v7, v8, v9] .null)) [(.int (sp12 p1 v7))]) _
            exact kt
          by_cases hc10394 : (sp12 p1 v7) = (0 : Int32)
          · obtain ⟨_, _, ⟨T10395, L10395, k10395, n10395⟩, -, X10395, ⟨Lc10395, hQ10395, l10395, y10395, z10395⟩, st10395⟩ := Jvm.LawKit.callS X10392 hx (y := Y40) hown (mvT hZ (hw _ (tk 68 rfl))) (mvT hZ (hw _ (tk 69 rfl))) (mvT hZ (hw _ (tk 70 rfl))) (mvT hZ (hw _ (tk 71 rfl))) (by decide) (backOf (W := 0) (rm12 l Z a0 hw hv [] w_1 w_2 hS0 p1 v8 h10297 n0 O10297) hZ (hw _ (tk 71 rfl)) (hw _ (tk 70 rfl)) (by decide) (by decide)) (g := (mkF m 316 (lt27 p0 p1 p2 p3 p4 v5 b5 v7 v8 v9 v10 b10291 (anL w_1 w_2 p0 p1 [v7, v8, v9] .null)) [(.int v8), (.int p1)])) rfl (by rw [hml]; rfl) (argsL := [(.int p1), (.int v8)]) (rest := []) (lenOf pd_7 rfl) rfl (by show 2 * 0 + _ ≤ _; exact Nat.le_of_eq rfl) (hb hby at_316) (fun _ _ => ⟨rfl, e10392, (by decide : 14 + 0 ≤ _), (by show ((10 + sl4074) + (sl8911 + 3)) + 0 ≤ 1600; omega)⟩)
            dsimp only [Pt.U, Pt.locs, Pt.cells, Pt.slots] at X10395 l10395 y10395 z10395 st10395 hQ10395
            subst l10395 y10395 z10395
            obtain ⟨rv10395, N10395q, e10395⟩ := hQ10395
            subst rv10395
            have N10395 := Fr.app N10392 N10395q
            have pre10396 : Cm p e below E0 (T10395.setTop (mkF m 319 (lt27 p0 p1 p2 p3 p4 v5 b5 v7 v8 v9 v10 b10291 (anL w_1 w_2 p0 p1 [v7, v8, v9] .null)) [(.int (sp12 p1 v8))])) := fun t kt => by
              refine pre10393 t ?_
              show Sp p e below T10392 (mkF m 304 (lt27 p0 p1 p2 p3 p4 v5 b5 v7 v8 v9 v10 b10291 (anL w_1 w_2 p0 p1 [v7, v8, v9] .null)) [(.int (sp12 p1 v7))]) _
              refine XS.ifNo X10392.here hx rfl (hb hby at_304) rfl ((if0 _ _).trans (teq hc10394).2) ?_
              show Sp p e below T10392 (mkF m 307 (lt27 p0 p1 p2 p3 p4 v5 b5 v7 v8 v9 v10 b10291 (anL w_1 w_2 p0 p1 [v7, v8, v9] .null)) []) _
              refine XS.iload X10392.here hx rfl (hb hby at_307) rfl ?_
              refine XS.iconst X10392.here hx rfl (hb hby at_309) ?_
              show Sp p e below T10392 (mkF m 310 (lt27 p0 p1 p2 p3 p4 v5 b5 v7 v8 v9 v10 b10291 (anL w_1 w_2 p0 p1 [v7, v8, v9] .null)) [(.int (1 : Int32)), (.int v10)]) _
              refine XS.icmpNo X10392.here hx rfl (hb hby at_310) rfl (tlt (by rw [hL10290] <;> decide : ((1 : Int32) < v10))).2.2.2 ?_
              show Sp p e below T10392 (mkF m 313 (lt27 p0 p1 p2 p3 p4 v5 b5 v7 v8 v9 v10 b10291 (anL w_1 w_2 p0 p1 [v7, v8, v9] .null)) []) _
              refine XS.iloadN X10392.here hx rfl (hb hby at_313) rfl ?_
              refine XS.iload X10392.here hx rfl (hb hby at_314) rfl ?_
              show Sp p e below T10392 (mkF m 316 (lt27 p0 p1 p2 p3 p4 v5 b5 v7 v8 v9 v10 b10291 (anL w_1 w_2 p0 p1 [v7, v8, v9] .null)) [(.int v8), (.int p1)]) _
              refine st10395 _ ?_
              show Sp p e below T10395 (mkF m 319 (lt27 p0 p1 p2 p3 p4 v5 b5 v7 v8 v9 v10 b10291 (anL w_1 w_2 p0 p1 [v7, v8, v9] .null)) [(.int (sp12 p1 v8))]) _
              exact kt
            by_cases hc10397 : (sp12 p1 v8) = (0 : Int32)
            · obtain ⟨_, _, ⟨T10398, L10398, k10398, n10398⟩, -, X10398, ⟨Lc10398, hQ10398, l10398, y10398, z10398⟩, st10398⟩ := Jvm.LawKit.callS X10395 hx (y := Y40) hown (mvT hZ (hw _ (tk 68 rfl))) (mvT hZ (hw _ (tk 69 rfl))) (mvT hZ (hw _ (tk 70 rfl))) (mvT hZ (hw _ (tk 71 rfl))) (by decide) (backOf (W := 0) (rm12 l Z a0 hw hv [] w_1 w_2 hS0 p1 v9 h10297 n0 O10297) hZ (hw _ (tk 71 rfl)) (hw _ (tk 70 rfl)) (by decide) (by decide)) (g := (mkF m 331 (lt27 p0 p1 p2 p3 p4 v5 b5 v7 v8 v9 v10 b10291 (anL w_1 w_2 p0 p1 [v7, v8, v9] .null)) [(.int v9), (.int p1)])) rfl (by rw [hml]; rfl) (argsL := [(.int p1), (.int v9)]) (rest := []) (lenOf pd_7 rfl) rfl (by show 2 * 0 + _ ≤ _; exact Nat.le_of_eq rfl) (hb hby at_331) (fun _ _ => ⟨rfl, e10395, (by decide : 14 + 0 ≤ _), (by show ((10 + sl4074) + (sl8911 + 3)) + 0 ≤ 1600; omega)⟩)
              dsimp only [Pt.U, Pt.locs, Pt.cells, Pt.slots] at X10398 l10398 y10398 z10398 st10398 hQ10398
              subst l10398 y10398 z10398
              obtain ⟨rv10398, N10398q, e10398⟩ := hQ10398
              subst rv10398
              have N10398 := Fr.app N10395 N10398q
              have pre10399 : Cm p e below E0 (T10398.setTop (mkF m 334 (lt27 p0 p1 p2 p3 p4 v5 b5 v7 v8 v9 v10 b10291 (anL w_1 w_2 p0 p1 [v7, v8, v9] .null)) [(.int (sp12 p1 v9))])) := fun t kt => by
                refine pre10396 t ?_
                show Sp p e below T10395 (mkF m 319 (lt27 p0 p1 p2 p3 p4 v5 b5 v7 v8 v9 v10 b10291 (anL w_1 w_2 p0 p1 [v7, v8, v9] .null)) [(.int (sp12 p1 v8))]) _
                refine XS.ifNo X10395.here hx rfl (hb hby at_319) rfl ((if0 _ _).trans (teq hc10397).2) ?_
                show Sp p e below T10395 (mkF m 322 (lt27 p0 p1 p2 p3 p4 v5 b5 v7 v8 v9 v10 b10291 (anL w_1 w_2 p0 p1 [v7, v8, v9] .null)) []) _
                refine XS.iload X10395.here hx rfl (hb hby at_322) rfl ?_
                refine XS.iconst X10395.here hx rfl (hb hby at_324) ?_
                show Sp p e below T10395 (mkF m 325 (lt27 p0 p1 p2 p3 p4 v5 b5 v7 v8 v9 v10 b10291 (anL w_1 w_2 p0 p1 [v7, v8, v9] .null)) [(.int (2 : Int32)), (.int v10)]) _
                refine XS.icmpNo X10395.here hx rfl (hb hby at_325) rfl (tlt (by rw [hL10290] <;> decide : ((2 : Int32) < v10))).2.2.2 ?_
                show Sp p e below T10395 (mkF m 328 (lt27 p0 p1 p2 p3 p4 v5 b5 v7 v8 v9 v10 b10291 (anL w_1 w_2 p0 p1 [v7, v8, v9] .null)) []) _
                refine XS.iloadN X10395.here hx rfl (hb hby at_328) rfl ?_
                refine XS.iload X10395.here hx rfl (hb hby at_329) rfl ?_
                show Sp p e below T10395 (mkF m 331 (lt27 p0 p1 p2 p3 p4 v5 b5 v7 v8 v9 v10 b10291 (anL w_1 w_2 p0 p1 [v7, v8, v9] .null)) [(.int v9), (.int p1)]) _
                refine st10398 _ ?_
                show Sp p e below T10398 (mkF m 334 (lt27 p0 p1 p2 p3 p4 v5 b5 v7 v8 v9 v10 b10291 (anL w_1 w_2 p0 p1 [v7, v8, v9] .null)) [(.int (sp12 p1 v9))]) _
                exact kt
              by_cases hc10400 : (sp12 p1 v9) = (0 : Int32)
              · have pre10401 : Cm p e below E0 (T10398.setTop (mkF m 344 (lt28 p0 p1 p2 p3 p4 v5 b5 v7 v8 v9 v10 b10291 (anL w_1 w_2 p0 p1 [v7, v8, v9] .null) (0 : Int32)) [])) := fun t kt => by
                  refine pre10399 t ?_
                  show Sp p e below T10398 (mkF m 334 (lt27 p0 p1 p2 p3 p4 v5 b5 v7 v8 v9 v10 b10291 (anL w_1 w_2 p0 p1 [v7, v8, v9] .null)) [(.int (sp12 p1 v9))]) _
                  refine XS.ifYes X10398.here hx rfl (pc0 := 334) (pc' := 341) rfl (hb hby at_334) rfl ((if0 _ _).trans (teq hc10400).1) (by decide) (by decide) ?_
                  show Sp p e below T10398 (mkF m 341 (lt27 p0 p1 p2 p3 p4 v5 b5 v7 v8 v9 v10 b10291 (anL w_1 w_2 p0 p1 [v7, v8, v9] .null)) []) _
                  refine XS.iconst X10398.here hx rfl (hb hby at_341) ?_
                  refine XS.istore X10398.here hx rfl (hb hby at_342) rfl (l' := (lt28 p0 p1 p2 p3 p4 v5 b5 v7 v8 v9 v10 b10291 (anL w_1 w_2 p0 p1 [v7, v8, v9] .null) (0 : Int32))) rfl ?_
                  show Sp p e below T10398 (mkF m 344 (lt28 p0 p1 p2 p3 p4 v5 b5 v7 v8 v9 v10 b10291 (anL w_1 w_2 p0 p1 [v7, v8, v9] .null) (0 : Int32)) []) _
                  exact kt
                exact ⟨_, _, _, (0 : Int32), X10398.more (by decide) (by show ((10 + sl4074) + (sl8911 + 3)) ≤ ((10 + sl4074) + (sl8911 + 3)); omega), e10398, O10297, N10398, (by simp [anyM, hc10394, hc10397, hc10400]), pre10401⟩
              · have pre10402 : Cm p e below E0 (T10398.setTop (mkF m 344 (lt28 p0 p1 p2 p3 p4 v5 b5 v7 v8 v9 v10 b10291 (anL w_1 w_2 p0 p1 [v7, v8, v9] .null) (1 : Int32)) [])) := fun t kt => by
                  refine pre10399 t ?_
                  show Sp p e below T10398 (mkF m 334 (lt27 p0 p1 p2 p3 p4 v5 b5 v7 v8 v9 v10 b10291 (anL w_1 w_2 p0 p1 [v7, v8, v9] .null)) [(.int (sp12 p1 v9))]) _
                  refine XS.ifNo X10398.here hx rfl (hb hby at_334) rfl ((if0 _ _).trans (feq hc10400).1) ?_
                  show Sp p e below T10398 (mkF m 337 (lt27 p0 p1 p2 p3 p4 v5 b5 v7 v8 v9 v10 b10291 (anL w_1 w_2 p0 p1 [v7, v8, v9] .null)) []) _
                  refine XS.iconst X10398.here hx rfl (hb hby at_337) ?_
                  show Sp p e below T10398 (mkF m 338 (lt27 p0 p1 p2 p3 p4 v5 b5 v7 v8 v9 v10 b10291 (anL w_1 w_2 p0 p1 [v7, v8, v9] .null)) [(.int (1 : Int32))]) _
                  refine XS.goto X10398.here hx rfl (pc0 := 338) (pc' := 342) rfl (hb hby at_338) (by decide) (by decide) ?_
                  show Sp p e below T10398 (mkF m 342 (lt27 p0 p1 p2 p3 p4 v5 b5 v7 v8 v9 v10 b10291 (anL w_1 w_2 p0 p1 [v7, v8, v9] .null)) [(.int (1 : Int32))]) _
                  refine XS.istore X10398.here hx rfl (hb hby at_342) rfl (l' := (lt28 p0 p1 p2 p3 p4 v5 b5 v7 v8 v9 v10 b10291 (anL w_1 w_2 p0 p1 [v7, v8, v9] .null) (1 : Int32))) rfl ?_
                  show Sp p e below T10398 (mkF m 344 (lt28 p0 p1 p2 p3 p4 v5 b5 v7 v8 v9 v10 b10291 (anL w_1 w_2 p0 p1 [v7, v8, v9] .null) (1 : Int32)) []) _
                  exact kt
                exact ⟨_, _, _, (1 : Int32), X10398.more (by decide) (by show ((10 + sl4074) + (sl8911 + 3)) ≤ ((10 + sl4074) + (sl8911 + 3)); omega), e10398, O10297, N10398, (by simp [anyM, hc10394, hc10397, hc10400]), pre10402⟩
            · have pre10403 : Cm p e below E0 (T10395.setTop (mkF m 344 (lt28 p0 p1 p2 p3 p4 v5 b5 v7 v8 v9 v10 b10291 (anL w_1 w_2 p0 p1 [v7, v8, v9] .null) (1 : Int32)) [])) := fun t kt => by
                refine pre10396 t ?_
                show Sp p e below T10395 (mkF m 319 (lt27 p0 p1 p2 p3 p4 v5 b5 v7 v8 v9 v10 b10291 (anL w_1 w_2 p0 p1 [v7, v8, v9] .null)) [(.int (sp12 p1 v8))]) _
                refine XS.ifYes X10395.here hx rfl (pc0 := 319) (pc' := 337) rfl (hb hby at_319) rfl ((if0 _ _).trans (feq hc10397).2) (by decide) (by decide) ?_
                show Sp p e below T10395 (mkF m 337 (lt27 p0 p1 p2 p3 p4 v5 b5 v7 v8 v9 v10 b10291 (anL w_1 w_2 p0 p1 [v7, v8, v9] .null)) []) _
                refine XS.iconst X10395.here hx rfl (hb hby at_337) ?_
                show Sp p e below T10395 (mkF m 338 (lt27 p0 p1 p2 p3 p4 v5 b5 v7 v8 v9 v10 b10291 (anL w_1 w_2 p0 p1 [v7, v8, v9] .null)) [(.int (1 : Int32))]) _
                refine XS.goto X10395.here hx rfl (pc0 := 338) (pc' := 342) rfl (hb hby at_338) (by decide) (by decide) ?_
                show Sp p e below T10395 (mkF m 342 (lt27 p0 p1 p2 p3 p4 v5 b5 v7 v8 v9 v10 b10291 (anL w_1 w_2 p0 p1 [v7, v8, v9] .null)) [(.int (1 : Int32))]) _
                refine XS.istore X10395.here hx rfl (hb hby at_342) rfl (l' := (lt28 p0 p1 p2 p3 p4 v5 b5 v7 v8 v9 v10 b10291 (anL w_1 w_2 p0 p1 [v7, v8, v9] .null) (1 : Int32))) rfl ?_
                show Sp p e below T10395 (mkF m 344 (lt28 p0 p1 p2 p3 p4 v5 b5 v7 v8 v9 v10 b10291 (anL w_1 w_2 p0 p1 [v7, v8, v9] .null) (1 : Int32)) []) _
                exact kt
              exact ⟨_, _, _, (1 : Int32), X10395.more (by decide) (by show ((10 + sl4074) + (sl8911 + 3)) ≤ ((10 + sl4074) + (sl8911 + 3)); omega), e10395, O10297, N10395, (by simp [anyM, hc10394, hc10397]), pre10403⟩
          · have pre10404 : Cm p e below E0 (T10392.setTop (mkF m 344 (lt28 p0 p1 p2 p3 p4 v5 b5 v7 v8 v9 v10 b10291 (anL w_1 w_2 p0 p1 [v7, v8, v9] .null) (1 : Int32)) [])) := fun t kt => by
              refine pre10393 t ?_
              show Sp p e below T10392 (mkF m 304 (lt27 p0 p1 p2 p3 p4 v5 b5 v7 v8 v9 v10 b10291 (anL w_1 w_2 p0 p1 [v7, v8, v9] .null)) [(.int (sp12 p1 v7))]) _
              refine XS.ifYes X10392.here hx rfl (pc0 := 304) (pc' := 337) rfl (hb hby at_304) rfl ((if0 _ _).trans (feq hc10394).2) (by decide) (by decide) ?_
              show Sp p e below T10392 (mkF m 337 (lt27 p0 p1 p2 p3 p4 v5 b5 v7 v8 v9 v10 b10291 (anL w_1 w_2 p0 p1 [v7, v8, v9] .null)) []) _
              refine XS.iconst X10392.here hx rfl (hb hby at_337) ?_
              show Sp p e below T10392 (mkF m 338 (lt27 p0 p1 p2 p3 p4 v5 b5 v7 v8 v9 v10 b10291 (anL w_1 w_2 p0 p1 [v7, v8, v9] .null)) [(.int (1 : Int32))]) _
              refine XS.goto X10392.here hx rfl (pc0 := 338) (pc' := 342) rfl (hb hby at_338) (by decide) (by decide) ?_
              show Sp p e below T10392 (mkF m 342 (lt27 p0 p1 p2 p3 p4 v5 b5 v7 v8 v9 v10 b10291 (anL w_1 w_2 p0 p1 [v7, v8, v9] .null)) [(.int (1 : Int32))]) _
              refine XS.istore X10392.here hx rfl (hb hby at_342) rfl (l' := (lt28 p0 p1 p2 p3 p4 v5 b5 v7 v8 v9 v10 b10291 (anL w_1 w_2 p0 p1 [v7, v8, v9] .null) (1 : Int32))) rfl ?_
              show Sp p e below T10392 (mkF m 344 (lt28 p0 p1 p2 p3 p4 v5 b5 v7 v8 v9 v10 b10291 (anL w_1 w_2 p0 p1 [v7, v8, v9] .null) (1 : Int32)) []) _
              exact kt
            exact ⟨_, _, _, (1 : Int32), X10392.more (by decide) (by show ((10 + sl4074) + (sl8911 + 3)) ≤ ((10 + sl4074) + (sl8911 + 3)); omega), e10392, O10297, N10392, (by simp [anyM, hc10394]), pre10404⟩
        obtain ⟨T10405, h10405, L10405, z10405, X10405, e10405, O10405, N10405, hz_10405, pre10405⟩ : ∃ (T10405 : State) (h10405 : Heap) (L10405 : List Loc) (z10405 : Int32), Stand p l e room_1 s m #[(.int p0), (.int p1), (.int p2), (.int p3), (.int p4)] below meth c T10405 L10405 14 ((10 + sl4074) + (sl8911 + 3)) ∧ T10405.heap = h10405 ∧ Old Z n0 h10405 ∧ Fr n0 L10405 ∧ z10405 = anyM p0 [v7, v8, v9] ∧ Cm p e below E0 (T10405.setTop (mkF m 395 (lt29 p0 p1 p2 p3 p4 v5 b5 v7 v8 v9 v10 b10291 (anL w_1 w_2 p0 p1 [v7, v8, v9] .null) z10391 z10405) [])) := by
          obtain ⟨_, _, ⟨T10406, L10406, k10406, n10406⟩, -, X10406, ⟨Lc10406, hQ10406, l10406, y10406, z10406⟩, st10406⟩ := Jvm.LawKit.callS X10391 hx (y := Y40) hown (mvT hZ (hw _ (tk 68 rfl))) (mvT hZ (hw _ (tk 69 rfl))) (mvT hZ (hw _ (tk 70 rfl))) (mvT hZ (hw _ (tk 71 rfl))) (by decide) (backOf (W := 0) (rm12 l Z a0 hw hv [] w_1 w_2 hS0 p0 v7 h10391 n0 O10391) hZ (hw _ (tk 71 rfl)) (hw _ (tk 70 rfl)) (by decide) (by decide)) (g := (mkF m 352 (lt28 p0 p1 p2 p3 p4 v5 b5 v7 v8 v9 v10 b10291 (anL w_1 w_2 p0 p1 [v7, v8, v9] .null) z10391) [(.int v7), (.int p0)])) rfl (by rw [hml]; rfl) (argsL := [(.int p0), (.int v7)]) (rest := []) (lenOf pd_7 rfl) rfl (by show 2 * 0 + _ ≤ _; exact Nat.le_of_eq rfl) (hb hby at_352) (fun _ _ => ⟨rfl, e10391, (by decide : 14 + 0 ≤ _), (by show ((10 + sl4074) + (sl8911 + 3)) + 0 ≤ 1600; omega)⟩)
          dsimp only [Pt.U, Pt.locs, Pt.cells, Pt.slots] at X10406 l10406 y10406 z10406 st10406 hQ10406
          subst l10406 y10406 z10406
          obtain ⟨rv10406, N10406q, e10406⟩ := hQ10406
          subst rv10406
          have N10406 := Fr.app N10391 N10406q
          have pre10407 : Cm p e below E0 (T10406.setTop (mkF m 355 (lt28 p0 p1 p2 p3 p4 v5 b5 v7 v8 v9 v10 b10291 (anL w_1 w_2 p0 p1 [v7, v8, v9] .null) z10391) [(.int (sp12 p0 v7))])) := fun t kt => by
            refine pre10391 t ?_
            show Sp p e below T10391 (mkF m 344 (lt28 p0 p1 p2 p3 p4 v5 b5 v7 v8 v9 v10 b10291 (anL w_1 w_2 p0 p1 [v7, v8, v9] .null) z10391) []) _
            refine XS.iload X10391.here hx rfl (hb hby at_344) rfl ?_
            show Sp p e below T10391 (mkF m 346 (lt28 p0 p1 p2 p3 p4 v5 b5 v7 v8 v9 v10 b10291 (anL w_1 w_2 p0 p1 [v7, v8, v9] .null) z10391) [(.int v10)]) _
            refine XS.ifNo X10391.here hx rfl (hb hby at_346) rfl ((if0 _ _).trans (tlt (by rw [hL10290] <;> decide : ((0 : Int32) < v10))).2.2.2) ?_
            show Sp p e below T10391 (mkF m 349 (lt28 p0 p1 p2 p3 p4 v5 b5 v7 v8 v9 v10 b10291 (anL w_1 w_2 p0 p1 [v7, v8, v9] .null) z10391) []) _
            refine XS.iloadN X10391.here hx rfl (hb hby at_349) rfl ?_
            refine XS.iload X10391.here hx rfl (hb hby at_350) rfl ?_
            show Sp p e below T10391 (mkF m 352 (lt28 p0 p1 p2 p3 p4 v5 b5 v7 v8 v9 v10 b10291 (anL w_1 w_2 p0 p1 [v7, v8, v9] .null) z10391) [(.int v7), (.int p0)]) _
            refine st10406 _ ?_
            show Sp p e below T10406 (mkF m 355 (lt28 p0 p1 p2 p3 p4 v5 b5 v7 v8 v9 v10 b10291 (anL w_1 w_2 p0 p1 [v7, v8, v9] .null) z10391) [(.int (sp12 p0 v7))]) _
            exact kt
          by_cases hc10408 : (sp12 p0 v7) = (0 : Int32)
          · obtain ⟨_, _, ⟨T10409, L10409, k10409, n10409⟩, -, X10409, ⟨Lc10409, hQ10409, l10409, y10409, z10409⟩, st10409⟩ := Jvm.LawKit.callS X10406 hx (y := Y40) hown (mvT hZ (hw _ (tk 68 rfl))) (mvT hZ (hw _ (tk 69 rfl))) (mvT hZ (hw _ (tk 70 rfl))) (mvT hZ (hw _ (tk 71 rfl))) (by decide) (backOf (W := 0) (rm12 l Z a0 hw hv [] w_1 w_2 hS0 p0 v8 h10391 n0 O10391) hZ (hw _ (tk 71 rfl)) (hw _ (tk 70 rfl)) (by decide) (by decide)) (g := (mkF m 367 (lt28 p0 p1 p2 p3 p4 v5 b5 v7 v8 v9 v10 b10291 (anL w_1 w_2 p0 p1 [v7, v8, v9] .null) z10391) [(.int v8), (.int p0)])) rfl (by rw [hml]; rfl) (argsL := [(.int p0), (.int v8)]) (rest := []) (lenOf pd_7 rfl) rfl (by show 2 * 0 + _ ≤ _; exact Nat.le_of_eq rfl) (hb hby at_367) (fun _ _ => ⟨rfl, e10406, (by decide : 14 + 0 ≤ _), (by show ((10 + sl4074) + (sl8911 + 3)) + 0 ≤ 1600; omega)⟩)
            dsimp only [Pt.U, Pt.locs, Pt.cells, Pt.slots] at X10409 l10409 y10409 z10409 st10409 hQ10409
            subst l10409 y10409 z10409
            obtain ⟨rv10409, N10409q, e10409⟩ := hQ10409
            subst rv10409
            have N10409 := Fr.app N10406 N10409q
            have pre10410 : Cm p e below E0 (T10409.setTop (mkF m 370 (lt28 p0 p1 p2 p3 p4 v5 b5 v7 v8 v9 v10 b10291 (anL w_1 w_2 p0 p1 [v7, v8, v9] .null) z10391) [(.int (sp12 p0 v8))])) := fun t kt => by
              refine pre10407 t ?_
              show Sp p e below T10406 (mkF m 355 (lt28 p0 p1 p2 p3 p4 v5 b5 v7 v8 v9 v10 b10291 (anL w_1 w_2 p0 p1 [v7, v8, v9] .null) z10391) [(.int (sp12 p0 v7))]) _
              refine XS.ifNo X10406.here hx rfl (hb hby at_355) rfl ((if0 _ _).trans (teq hc10408).2) ?_
              show Sp p e below T10406 (mkF m 358 (lt28 p0 p1 p2 p3 p4 v5 b5 v7 v8 v9 v10 b10291 (anL w_1 w_2 p0 p1 [v7, v8, v9] .null) z10391) []) _
              refine XS.iload X10406.here hx rfl (hb hby at_358) rfl ?_
              refine XS.iconst X10406.here hx rfl (hb hby at_360) ?_
              show Sp p e below T10406 (mkF m 361 (lt28 p0 p1 p2 p3 p4 v5 b5 v7 v8 v9 v10 b10291 (anL w_1 w_2 p0 p1 [v7, v8, v9] .null) z10391) [(.int (1 : Int32)), (.int v10)]) _
              refine XS.icmpNo X10406.here hx rfl (hb hby at_361) rfl (tlt (by rw [hL10290] <;> decide : ((1 : Int32) < v10))).2.2.2 ?_
              show Sp p e below T10406 (mkF m 364 (lt28 p0 p1 p2 p3 p4 v5 b5 v7 v8 v9 v10 b10291 (anL w_1 w_2 p0 p1 [v7, v8, v9] .null) z10391) []) _
              refine XS.iloadN X10406.here hx rfl (hb hby at_364) rfl ?_
              refine XS.iload X10406.here hx rfl (hb hby at_365) rfl ?_
              show Sp p e below T10406 (mkF m 367 (lt28 p0 p1 p2 p3 p4 v5 b5 v7 v8 v9 v10 b10291 (anL w_1 w_2 p0 p1 [v7, v8, v9] .null) z10391) [(.int v8), (.int p0)]) _
              refine st10409 _ ?_
              show Sp p e below T10409 (mkF m 370 (lt28 p0 p1 p2 p3 p4 v5 b5 v7 v8 v9 v10 b10291 (anL w_1 w_2 p0 p1 [v7, v8, v9] .null) z10391) [(.int (sp12 p0 v8))]) _
              exact kt
            by_cases hc10411 : (sp12 p0 v8) = (0 : Int32)
            · obtain ⟨_, _, ⟨T10412, L10412, k10412, n10412⟩, -, X10412, ⟨Lc10412, hQ10412, l10412, y10412, z10412⟩, st10412⟩ := Jvm.LawKit.callS X10409 hx (y := Y40) hown (mvT hZ (hw _ (tk 68 rfl))) (mvT hZ (hw _ (tk 69 rfl))) (mvT hZ (hw _ (tk 70 rfl))) (mvT hZ (hw _ (tk 71 rfl))) (by decide) (backOf (W := 0) (rm12 l Z a0 hw hv [] w_1 w_2 hS0 p0 v9 h10391 n0 O10391) hZ (hw _ (tk 71 rfl)) (hw _ (tk 70 rfl)) (by decide) (by decide)) (g := (mkF m 382 (lt28 p0 p1 p2 p3 p4 v5 b5 v7 v8 v9 v10 b10291 (anL w_1 w_2 p0 p1 [v7, v8, v9] .null) z10391) [(.int v9), (.int p0)])) rfl (by rw [hml]; rfl) (argsL := [(.int p0), (.int v9)]) (rest := []) (lenOf pd_7 rfl) rfl (by show 2 * 0 + _ ≤ _; exact Nat.le_of_eq rfl) (hb hby at_382) (fun _ _ => ⟨rfl, e10409, (by decide : 14 + 0 ≤ _), (by show ((10 + sl4074) + (sl8911 + 3)) + 0 ≤ 1600; omega)⟩)
              dsimp only [Pt.U, Pt.locs, Pt.cells, Pt.slots] at X10412 l10412 y10412 z10412 st10412 hQ10412
              subst l10412 y10412 z10412
              obtain ⟨rv10412, N10412q, e10412⟩ := hQ10412
              subst rv10412
              have N10412 := Fr.app N10409 N10412q
              have pre10413 : Cm p e below E0 (T10412.setTop (mkF m 385 (lt28 p0 p1 p2 p3 p4 v5 b5 v7 v8 v9 v10 b10291 (anL w_1 w_2 p0 p1 [v7, v8, v9] .null) z10391) [(.int (sp12 p0 v9))])) := fun t kt => by
                refine pre10410 t ?_
                show Sp p e below T10409 (mkF m 370 (lt28 p0 p1 p2 p3 p4 v5 b5 v7 v8 v9 v10 b10291 (anL w_1 w_2 p0 p1 [v7, v8, v9] .null) z10391) [(.int (sp12 p0 v8))]) _
                refine XS.ifNo X10409.here hx rfl (hb hby at_370) rfl ((if0 _ _).trans (teq hc10411).2) ?_
                show Sp p e below T10409 (mkF m 373 (lt28 p0 p1 p2 p3 p4 v5 b5 v7 v8 v9 v10 b10291 (anL w_1 w_2 p0 p1 [v7, v8, v9] .null) z10391) []) _
                refine XS.iload X10409.here hx rfl (hb hby at_373) rfl ?_
                refine XS.iconst X10409.here hx rfl (hb hby at_375) ?_
                show Sp p e below T10409 (mkF m 376 (lt28 p0 p1 p2 p3 p4 v5 b5 v7 v8 v9 v10 b10291 (anL w_1 w_2 p0 p1 [v7, v8, v9] .null) z10391) [(.int (2 : Int32)), (.int v10)]) _
                refine XS.icmpNo X10409.here hx rfl (hb hby at_376) rfl (tlt (by rw [hL10290] <;> decide : ((2 : Int32) < v10))).2.2.2 ?_
                show Sp p e below T10409 (mkF m 379 (lt28 p0 p1 p2 p3 p4 v5 b5 v7 v8 v9 v10 b10291 (anL w_1 w_2 p0 p1 [v7, v8, v9] .null) z10391) []) _
                refine XS.iloadN X10409.here hx rfl (hb hby at_379) rfl ?_
                refine XS.iload X10409.here hx rfl (hb hby at_380) rfl ?_
                show Sp p e below T10409 (mkF m 382 (lt28 p0 p1 p2 p3 p4 v5 b5 v7 v8 v9 v10 b10291 (anL w_1 w_2 p0 p1 [v7, v8, v9] .null) z10391) [(.int v9), (.int p0)]) _
                refine st10412 _ ?_
                show Sp p e below T10412 (mkF m 385 (lt28 p0 p1 p2 p3 p4 v5 b5 v7 v8 v9 v10 b10291 (anL w_1 w_2 p0 p1 [v7, v8, v9] .null) z10391) [(.int (sp12 p0 v9))]) _
                exact kt
              by_cases hc10414 : (sp12 p0 v9) = (0 : Int32)
              · have pre10415 : Cm p e below E0 (T10412.setTop (mkF m 395 (lt29 p0 p1 p2 p3 p4 v5 b5 v7 v8 v9 v10 b10291 (anL w_1 w_2 p0 p1 [v7, v8, v9] .null) z10391 (0 : Int32)) [])) := fun t kt => by
                  refine pre10413 t ?_
                  show Sp p e below T10412 (mkF m 385 (lt28 p0 p1 p2 p3 p4 v5 b5 v7 v8 v9 v10 b10291 (anL w_1 w_2 p0 p1 [v7, v8, v9] .null) z10391) [(.int (sp12 p0 v9))]) _
                  refine XS.ifYes X10412.here hx rfl (pc0 := 385) (pc' := 392) rfl (hb hby at_385) rfl ((if0 _ _).trans (teq hc10414).1) (by decide) (by decide) ?_
                  show Sp p e below T10412 (mkF m 392 (lt28 p0 p1 p2 p3 p4 v5 b5 v7 v8 v9 v10 b10291 (anL w_1 w_2 p0 p1 [v7, v8, v9] .null) z10391) []) _
                  refine XS.iconst X10412.here hx rfl (hb hby at_392) ?_
                  refine XS.istore X10412.here hx rfl (hb hby at_393) rfl (l' := (lt29 p0 p1 p2 p3 p4 v5 b5 v7 v8 v9 v10 b10291 (anL w_1 w_2 p0 p1 [v7, v8, v9] .null) z10391 (0 : Int32))) rfl ?_
                  show Sp p e below T10412 (mkF m 395 (lt29 p0 p1 p2 p3 p4 v5 b5 v7 v8 v9 v10 b10291 (anL w_1 w_2 p0 p1 [v7, v8, v9] .null) z10391 (0 : Int32)) []) _
                  exact kt
                exact ⟨_, _, _, (0 : Int32), X10412.more (by decide) (by show ((10 + sl4074) + (sl8911 + 3)) ≤ ((10 + sl4074) + (sl8911 + 3)); omega), e10412, O10391, N10412, (by simp [anyM, hc10408, hc10411, hc10414]), pre10415⟩
              · have pre10416 : Cm p e below E0 (T10412.setTop (mkF m 395 (lt29 p0 p1 p2 p3 p4 v5 b5 v7 v8 v9 v10 b10291 (anL w_1 w_2 p0 p1 [v7, v8, v9] .null) z10391 (1 : Int32)) [])) := fun t kt => by
                  refine pre10413 t ?_
                  show Sp p e below T10412 (mkF m 385 (lt28 p0 p1 p2 p3 p4 v5 b5 v7 v8 v9 v10 b10291 (anL w_1 w_2 p0 p1 [v7, v8, v9] .null) z10391) [(.int (sp12 p0 v9))]) _
                  refine XS.ifNo X10412.here hx rfl (hb hby at_385) rfl ((if0 _ _).trans (feq hc10414).1) ?_
                  show Sp p e below T10412 (mkF m 388 (lt28 p0 p1 p2 p3 p4 v5 b5 v7 v8 v9 v10 b10291 (anL w_1 w_2 p0 p1 [v7, v8, v9] .null) z10391) []) _
                  refine XS.iconst X10412.here hx rfl (hb hby at_388) ?_
                  show Sp p e below T10412 (mkF m 389 (lt28 p0 p1 p2 p3 p4 v5 b5 v7 v8 v9 v10 b10291 (anL w_1 w_2 p0 p1 [v7, v8, v9] .null) z10391) [(.int (1 : Int32))]) _
                  refine XS.goto X10412.here hx rfl (pc0 := 389) (pc' := 393) rfl (hb hby at_389) (by decide) (by decide) ?_
                  show Sp p e below T10412 (mkF m 393 (lt28 p0 p1 p2 p3 p4 v5 b5 v7 v8 v9 v10 b10291 (anL w_1 w_2 p0 p1 [v7, v8, v9] .null) z10391) [(.int (1 : Int32))]) _
                  refine XS.istore X10412.here hx rfl (hb hby at_393) rfl (l' := (lt29 p0 p1 p2 p3 p4 v5 b5 v7 v8 v9 v10 b10291 (anL w_1 w_2 p0 p1 [v7, v8, v9] .null) z10391 (1 : Int32))) rfl ?_
                  show Sp p e below T10412 (mkF m 395 (lt29 p0 p1 p2 p3 p4 v5 b5 v7 v8 v9 v10 b10291 (anL w_1 w_2 p0 p1 [v7, v8, v9] .null) z10391 (1 : Int32)) []) _
                  exact kt
                exact ⟨_, _, _, (1 : Int32), X10412.more (by decide) (by show ((10 + sl4074) + (sl8911 + 3)) ≤ ((10 + sl4074) + (sl8911 + 3)); omega), e10412, O10391, N10412, (by simp [anyM, hc10408, hc10411, hc10414]), pre10416⟩
            · have pre10417 : Cm p e below E0 (T10409.setTop (mkF m 395 (lt29 p0 p1 p2 p3 p4 v5 b5 v7 v8 v9 v10 b10291 (anL w_1 w_2 p0 p1 [v7, v8, v9] .null) z10391 (1 : Int32)) [])) := fun t kt => by
                refine pre10410 t ?_
                show Sp p e below T10409 (mkF m 370 (lt28 p0 p1 p2 p3 p4 v5 b5 v7 v8 v9 v10 b10291 (anL w_1 w_2 p0 p1 [v7, v8, v9] .null) z10391) [(.int (sp12 p0 v8))]) _
                refine XS.ifYes X10409.here hx rfl (pc0 := 370) (pc' := 388) rfl (hb hby at_370) rfl ((if0 _ _).trans (feq hc10411).2) (by decide) (by decide) ?_
                show Sp p e below T10409 (mkF m 388 (lt28 p0 p1 p2 p3 p4 v5 b5 v7 v8 v9 v10 b10291 (anL w_1 w_2 p0 p1 [v7, v8, v9] .null) z10391) []) _
                refine XS.iconst X10409.here hx rfl (hb hby at_388) ?_
                show Sp p e below T10409 (mkF m 389 (lt28 p0 p1 p2 p3 p4 v5 b5 v7 v8 v9 v10 b10291 (anL w_1 w_2 p0 p1 [v7, v8, v9] .null) z10391) [(.int (1 : Int32))]) _
                refine XS.goto X10409.here hx rfl (pc0 := 389) (pc' := 393) rfl (hb hby at_389) (by decide) (by decide) ?_
                show Sp p e below T10409 (mkF m 393 (lt28 p0 p1 p2 p3 p4 v5 b5 v7 v8 v9 v10 b10291 (anL w_1 w_2 p0 p1 [v7, v8, v9] .null) z10391) [(.int (1 : Int32))]) _
                refine XS.istore X10409.here hx rfl (hb hby at_393) rfl (l' := (lt29 p0 p1 p2 p3 p4 v5 b5 v7 v8 v9 v10 b10291 (anL w_1 w_2 p0 p1 [v7, v8, v9] .null) z10391 (1 : Int32))) rfl ?_
                show Sp p e below T10409 (mkF m 395 (lt29 p0 p1 p2 p3 p4 v5 b5 v7 v8 v9 v10 b10291 (anL w_1 w_2 p0 p1 [v7, v8, v9] .null) z10391 (1 : Int32)) []) _
                exact kt
              exact ⟨_, _, _, (1 : Int32), X10409.more (by decide) (by show ((10 + sl4074) + (sl8911 + 3)) ≤ ((10 + sl4074) + (sl8911 + 3)); omega), e10409, O10391, N10409, (by simp [anyM, hc10408, hc10411]), pre10417⟩
          · have pre10418 : Cm p e below E0 (T10406.setTop (mkF m 395 (lt29 p0 p1 p2 p3 p4 v5 b5 v7 v8 v9 v10 b10291 (anL w_1 w_2 p0 p1 [v7, v8, v9] .null) z10391 (1 : Int32)) [])) := fun t kt => by
              refine pre10407 t ?_
              show Sp p e below T10406 (mkF m 355 (lt28 p0 p1 p2 p3 p4 v5 b5 v7 v8 v9 v10 b10291 (anL w_1 w_2 p0 p1 [v7, v8, v9] .null) z10391) [(.int (sp12 p0 v7))]) _
              refine XS.ifYes X10406.here hx rfl (pc0 := 355) (pc' := 388) rfl (hb hby at_355) rfl ((if0 _ _).trans (feq hc10408).2) (by decide) (by decide) ?_
              show Sp p e below T10406 (mkF m 388 (lt28 p0 p1 p2 p3 p4 v5 b5 v7 v8 v9 v10 b10291 (anL w_1 w_2 p0 p1 [v7, v8, v9] .null) z10391) []) _
              refine XS.iconst X10406.here hx rfl (hb hby at_388) ?_
              show Sp p e below T10406 (mkF m 389 (lt28 p0 p1 p2 p3 p4 v5 b5 v7 v8 v9 v10 b10291 (anL w_1 w_2 p0 p1 [v7, v8, v9] .null) z10391) [(.int (1 : Int32))]) _
              refine XS.goto X10406.here hx rfl (pc0 := 389) (pc' := 393) rfl (hb hby at_389) (by decide) (by decide) ?_
              show Sp p e below T10406 (mkF m 393 (lt28 p0 p1 p2 p3 p4 v5 b5 v7 v8 v9 v10 b10291 (anL w_1 w_2 p0 p1 [v7, v8, v9] .null) z10391) [(.int (1 : Int32))]) _
              refine XS.istore X10406.here hx rfl (hb hby at_393) rfl (l' := (lt29 p0 p1 p2 p3 p4 v5 b5 v7 v8 v9 v10 b10291 (anL w_1 w_2 p0 p1 [v7, v8, v9] .null) z10391 (1 : Int32))) rfl ?_
              show Sp p e below T10406 (mkF m 395 (lt29 p0 p1 p2 p3 p4 v5 b5 v7 v8 v9 v10 b10291 (anL w_1 w_2 p0 p1 [v7, v8, v9] .null) z10391 (1 : Int32)) []) _
              exact kt
            exact ⟨_, _, _, (1 : Int32), X10406.more (by decide) (by show ((10 + sl4074) + (sl8911 + 3)) ≤ ((10 + sl4074) + (sl8911 + 3)); omega), e10406, O10391, N10406, (by simp [anyM, hc10408]), pre10418⟩
        have pre10419 : Cm p e below E0 (T10405.setTop (mkF m 397 (lt29 p0 p1 p2 p3 p4 v5 b5 v7 v8 v9 v10 b10291 (anL w_1 w_2 p0 p1 [v7, v8, v9] .null) z10391 z10405) [(.int z10391)])) := fun t kt => by
          refine pre10405 t ?_
          show Sp p e below T10405 (mkF m 395 (lt29 p0 p1 p2 p3 p4 v5 b5 v7 v8 v9 v10 b10291 (anL w_1 w_2 p0 p1 [v7, v8, v9] .null) z10391 z10405) []) _
          refine XS.iload X10405.here hx rfl (hb hby at_395) rfl ?_
          show Sp p e below T10405 (mkF m 397 (lt29 p0 p1 p2 p3 p4 v5 b5 v7 v8 v9 v10 b10291 (anL w_1 w_2 p0 p1 [v7, v8, v9] .null) z10391 z10405) [(.int z10391)]) _
          exact kt
        by_cases hc10420 : z10391 = (0 : Int32)
        · have pre10421 : Cm p e below E0 (T10405.setTop (mkF m 408 (lt29 p0 p1 p2 p3 p4 v5 b5 v7 v8 v9 v10 b10291 (anL w_1 w_2 p0 p1 [v7, v8, v9] .null) z10391 z10405) [(.int z10405)])) := fun t kt => by
            refine pre10419 t ?_
            show Sp p e below T10405 (mkF m 397 (lt29 p0 p1 p2 p3 p4 v5 b5 v7 v8 v9 v10 b10291 (anL w_1 w_2 p0 p1 [v7, v8, v9] .null) z10391 z10405) [(.int z10391)]) _
            refine XS.ifYes X10405.here hx rfl (pc0 := 397) (pc' := 406) rfl (hb hby at_397) rfl ((if0 _ _).trans (teq hc10420).1) (by decide) (by decide) ?_
            show Sp p e below T10405 (mkF m 406 (lt29 p0 p1 p2 p3 p4 v5 b5 v7 v8 v9 v10 b10291 (anL w_1 w_2 p0 p1 [v7, v8, v9] .null) z10391 z10405) []) _
            refine XS.iload X10405.here hx rfl (hb hby at_406) rfl ?_
            show Sp p e below T10405 (mkF m 408 (lt29 p0 p1 p2 p3 p4 v5 b5 v7 v8 v9 v10 b10291 (anL w_1 w_2 p0 p1 [v7, v8, v9] .null) z10391 z10405) [(.int z10405)]) _
            exact kt
          by_cases hc10422 : z10405 = (0 : Int32)
          · obtain ⟨fs, hr, hrun, hended, hW, hsame⟩ := X10405.leave (v := some (.int (1 : Int32))) (fun h => by rw [Bd.returns] at h; cases h)
            refine ⟨_, _, pre10421 _ ?_, hrun, hended, _, _, rfl, ?_, ⟨_, rfl⟩, hW, hsame.mono (by decide) (by show ((10 + sl4074) + (sl8911 + 3)) ≤ 1600; omega)⟩
            · show Sp p e below T10405 (mkF m 408 (lt29 p0 p1 p2 p3 p4 v5 b5 v7 v8 v9 v10 b10291 (anL w_1 w_2 p0 p1 [v7, v8, v9] .null) z10391 z10405) [(.int z10405)]) _
              refine XS.ifYes X10405.here hx rfl (pc0 := 408) (pc' := 417) rfl (hb hby at_408) rfl ((if0 _ _).trans (teq hc10422).1) (by decide) (by decide) ?_
              show Sp p e below T10405 (mkF m 417 (lt29 p0 p1 p2 p3 p4 v5 b5 v7 v8 v9 v10 b10291 (anL w_1 w_2 p0 p1 [v7, v8, v9] .null) z10391 z10405) []) _
              refine XS.aconstNull X10405.here hx rfl (hb hby at_417) ?_
              refine XS.astore X10405.here hx rfl (hb hby at_418) rfl rfl (l' := (lt30 p0 p1 p2 p3 p4 v5 b5 v7 v8 v9 v10 b10291 (anL w_1 w_2 p0 p1 [v7, v8, v9] .null) z10391 z10405)) rfl ?_
              show Sp p e below T10405 (mkF m 420 (lt30 p0 p1 p2 p3 p4 v5 b5 v7 v8 v9 v10 b10291 (anL w_1 w_2 p0 p1 [v7, v8, v9] .null) z10391 z10405) []) _
              refine XS.aload X10405.here hx rfl (hb hby at_420) rfl (anL_ref _ _ _ _ _ rfl) ?_
              refine XS.aload X10405.here hx rfl (hb hby at_422) rfl rfl ?_
              show Sp p e below T10405 (mkF m 424 (lt30 p0 p1 p2 p3 p4 v5 b5 v7 v8 v9 v10 b10291 (anL w_1 w_2 p0 p1 [v7, v8, v9] .null) z10391 z10405) [.null, (anL w_1 w_2 p0 p1 [v7, v8, v9] .null)]) _
              refine Jvm.RoadKit.acmp (g := (mkF m 424 (lt30 p0 p1 p2 p3 p4 v5 b5 v7 v8 v9 v10 b10291 (anL w_1 w_2 p0 p1 [v7, v8, v9] .null) z10391 z10405) [.null, (anL w_1 w_2 p0 p1 [v7, v8, v9] .null)])) X10405 hx rfl (anL_ref _ _ _ _ _ rfl) rfl (pc0 := 424) (pc' := 427) (same := true) rfl (hb hby at_424) rfl (decide_eq_true (by rw [own_anL, ← hz_10391, ← hz_10405]; simp [hc10420, hc10422] : (anL w_1 w_2 p0 p1 [v7, v8, v9] .null) = .null)) (by decide) (by decide) ?_
              show Sp p e below T10405 (mkF m 427 (lt30 p0 p1 p2 p3 p4 v5 b5 v7 v8 v9 v10 b10291 (anL w_1 w_2 p0 p1 [v7, v8, v9] .null) z10391 z10405) []) _
              refine XS.iconst X10405.here hx rfl (hb hby at_427) ?_
              show Sp p e below T10405 (mkF m 428 (lt30 p0 p1 p2 p3 p4 v5 b5 v7 v8 v9 v10 b10291 (anL w_1 w_2 p0 p1 [v7, v8, v9] .null) z10391 z10405) [(.int (1 : Int32))]) _
              refine XS.goto X10405.here hx rfl (pc0 := 428) (pc' := 432) rfl (hb hby at_428) (by decide) (by decide) ?_
              show Sp p e below T10405 (mkF m 432 (lt30 p0 p1 p2 p3 p4 v5 b5 v7 v8 v9 v10 b10291 (anL w_1 w_2 p0 p1 [v7, v8, v9] .null) z10391 z10405) [(.int (1 : Int32))]) _
              exact retN X10405 hx (t := .boolean) Bd.returns (by simp) (hb hby at_432) hr
            · show Q0 Z w_1 w_2 p0 p1 p2 p3 p4 h0 n0 _ T10405.heap _
              rw [e10405]
              exact ⟨rfl, N10405, trivial⟩
          · obtain ⟨T10423, X10423, e10423, st10423⟩ := getS2 X10405 hx hZ hown (host := "") (Or.inl (hw _ (tk 94 rfl))) Via.refl e10405 (S_2.ext O10405.2) (g := (mkF m 411 (lt29 p0 p1 p2 p3 p4 v5 b5 v7 v8 v9 v10 b10291 (anL w_1 w_2 p0 p1 [v7, v8, v9] .null) z10391 z10405) [])) rfl (hb hby at_411)
            obtain ⟨fs, hr, hrun, hended, hW, hsame⟩ := X10423.leave (v := some (.int (1 : Int32))) (fun h => by rw [Bd.returns] at h; cases h)
            refine ⟨_, _, pre10421 _ ?_, hrun, hended, _, _, rfl, ?_, ⟨_, rfl⟩, hW, hsame.mono (by decide) (by show ((10 + sl4074) + (sl8911 + 3)) ≤ 1600; omega)⟩
            · show Sp p e below T10405 (mkF m 408 (lt29 p0 p1 p2 p3 p4 v5 b5 v7 v8 v9 v10 b10291 (anL w_1 w_2 p0 p1 [v7, v8, v9] .null) z10391 z10405) [(.int z10405)]) _
              refine XS.ifNo X10405.here hx rfl (hb hby at_408) rfl ((if0 _ _).trans (feq hc10422).1) ?_
              show Sp p e below T10405 (mkF m 411 (lt29 p0 p1 p2 p3 p4 v5 b5 v7 v8 v9 v10 b10291 (anL w_1 w_2 p0 p1 [v7, v8, v9] .null) z10391 z10405) []) _
              refine st10423 _ ?_
              show Sp p e below T10423 (mkF m 414 (lt29 p0 p1 p2 p3 p4 v5 b5 v7 v8 v9 v10 b10291 (anL w_1 w_2 p0 p1 [v7, v8, v9] .null) z10391 z10405) [(.ref w_2)]) _
              refine XS.goto X10423.here hx rfl (pc0 := 414) (pc' := 418) rfl (hb hby at_414) (by decide) (by decide) ?_
              show Sp p e below T10423 (mkF m 418 (lt29 p0 p1 p2 p3 p4 v5 b5 v7 v8 v9 v10 b10291 (anL w_1 w_2 p0 p1 [v7, v8, v9] .null) z10391 z10405) [(.ref w_2)]) _
              refine XS.astore X10423.here hx rfl (hb hby at_418) rfl rfl (l' := (lt31 p0 p1 p2 p3 p4 v5 b5 v7 v8 v9 v10 b10291 (anL w_1 w_2 p0 p1 [v7, v8, v9] .null) z10391 z10405 w_2)) rfl ?_
              refine XS.aload X10423.here hx rfl (hb hby at_420) rfl (anL_ref _ _ _ _ _ rfl) ?_
              show Sp p e below T10423 (mkF m 422 (lt31 p0 p1 p2 p3 p4 v5 b5 v7 v8 v9 v10 b10291 (anL w_1 w_2 p0 p1 [v7, v8, v9] .null) z10391 z10405 w_2) [(anL w_1 w_2 p0 p1 [v7, v8, v9] .null)]) _
              refine XS.aload X10423.here hx rfl (hb hby at_422) rfl rfl ?_
              show Sp p e below T10423 (mkF m 424 (lt31 p0 p1 p2 p3 p4 v5 b5 v7 v8 v9 v10 b10291 (anL w_1 w_2 p0 p1 [v7, v8, v9] .null) z10391 z10405 w_2) [(.ref w_2), (anL w_1 w_2 p0 p1 [v7, v8, v9] .null)]) _
              refine Jvm.RoadKit.acmp (g := (mkF m 424 (lt31 p0 p1 p2 p3 p4 v5 b5 v7 v8 v9 v10 b10291 (anL w_1 w_2 p0 p1 [v7, v8, v9] .null) z10391 z10405 w_2) [(.ref w_2), (anL w_1 w_2 p0 p1 [v7, v8, v9] .null)])) X10423 hx rfl (anL_ref _ _ _ _ _ rfl) rfl (pc0 := 424) (pc' := 427) (same := true) rfl (hb hby at_424) rfl (decide_eq_true (by rw [own_anL, ← hz_10391, ← hz_10405]; simp [hc10420, hc10422] : (anL w_1 w_2 p0 p1 [v7, v8, v9] .null) = (.ref w_2))) (by decide) (by decide) ?_
              show Sp p e below T10423 (mkF m 427 (lt31 p0 p1 p2 p3 p4 v5 b5 v7 v8 v9 v10 b10291 (anL w_1 w_2 p0 p1 [v7, v8, v9] .null) z10391 z10405 w_2) []) _
              refine XS.iconst X10423.here hx rfl (hb hby at_427) ?_
              show Sp p e below T10423 (mkF m 428 (lt31 p0 p1 p2 p3 p4 v5 b5 v7 v8 v9 v10 b10291 (anL w_1 w_2 p0 p1 [v7, v8, v9] .null) z10391 z10405 w_2) [(.int (1 : Int32))]) _
              refine XS.goto X10423.here hx rfl (pc0 := 428) (pc' := 432) rfl (hb hby at_428) (by decide) (by decide) ?_
              show Sp p e below T10423 (mkF m 432 (lt31 p0 p1 p2 p3 p4 v5 b5 v7 v8 v9 v10 b10291 (anL w_1 w_2 p0 p1 [v7, v8, v9] .null) z10391 z10405 w_2) [(.int (1 : Int32))]) _
              exact retN X10423 hx (t := .boolean) Bd.returns (by simp) (hb hby at_432) hr
            · show Q0 Z w_1 w_2 p0 p1 p2 p3 p4 h0 n0 _ T10423.heap _
              rw [e10423]
              exact ⟨rfl, N10405, trivial⟩
        · obtain ⟨T10424, X10424, e10424, st10424⟩ := getS2 X10405 hx hZ hown (host := "") (Or.inl (hw _ (tk 91 rfl))) Via.refl e10405 (S_1.ext O10405.2) (g := (mkF m 400 (lt29 p0 p1 p2 p3 p4 v5 b5 v7 v8 v9 v10 b10291 (anL w_1 w_2 p0 p1 [v7, v8, v9] .null) z10391 z10405) [])) rfl (hb hby at_400)
          obtain ⟨fs, hr, hrun, hended, hW, hsame⟩ := X10424.leave (v := some (.int (1 : Int32))) (fun h => by rw [Bd.returns] at h; cases h)
          refine ⟨_, _, pre10419 _ ?_, hrun, hended, _, _, rfl, ?_, ⟨_, rfl⟩, hW, hsame.mono (by decide) (by show ((10 + sl4074) + (sl8911 + 3)) ≤ 1600; omega)⟩
          · show Sp p e below T10405 (mkF m 397 (lt29 p0 p1 p2 p3 p4 v5 b5 v7 v8 v9 v10 b10291 (anL w_1 w_2 p0 p1 [v7, v8, v9] .null) z10391 z10405) [(.int z10391)]) _
            refine XS.ifNo X10405.here hx rfl (hb hby at_397) rfl ((if0 _ _).trans (feq hc10420).1) ?_
            show Sp p e below T10405 (mkF m 400 (lt29 p0 p1 p2 p3 p4 v5 b5 v7 v8 v9 v10 b10291 (anL w_1 w_2 p0 p1 [v7, v8, v9] .null) z10391 z10405) []) _
            refine st10424 _ ?_
            show Sp p e below T10424 (mkF m 403 (lt29 p0 p1 p2 p3 p4 v5 b5 v7 v8 v9 v10 b10291 (anL w_1 w_2 p0 p1 [v7, v8, v9] .null) z10391 z10405) [(.ref w_1)]) _
            refine XS.goto X10424.here hx rfl (pc0 := 403) (pc' := 418) rfl (hb hby at_403) (by decide) (by decide) ?_
            show Sp p e below T10424 (mkF m 418 (lt29 p0 p1 p2 p3 p4 v5 b5 v7 v8 v9 v10 b10291 (anL w_1 w_2 p0 p1 [v7, v8, v9] .null) z10391 z10405) [(.ref w_1)]) _
            refine XS.astore X10424.here hx rfl (hb hby at_418) rfl rfl (l' := (lt31 p0 p1 p2 p3 p4 v5 b5 v7 v8 v9 v10 b10291 (anL w_1 w_2 p0 p1 [v7, v8, v9] .null) z10391 z10405 w_1)) rfl ?_
            refine XS.aload X10424.here hx rfl (hb hby at_420) rfl (anL_ref _ _ _ _ _ rfl) ?_
            show Sp p e below T10424 (mkF m 422 (lt31 p0 p1 p2 p3 p4 v5 b5 v7 v8 v9 v10 b10291 (anL w_1 w_2 p0 p1 [v7, v8, v9] .null) z10391 z10405 w_1) [(anL w_1 w_2 p0 p1 [v7, v8, v9] .null)]) _
            refine XS.aload X10424.here hx rfl (hb hby at_422) rfl rfl ?_
            show Sp p e below T10424 (mkF m 424 (lt31 p0 p1 p2 p3 p4 v5 b5 v7 v8 v9 v10 b10291 (anL w_1 w_2 p0 p1 [v7, v8, v9] .null) z10391 z10405 w_1) [(.ref w_1), (anL w_1 w_2 p0 p1 [v7, v8, v9] .null)]) _
            refine Jvm.RoadKit.acmp (g := (mkF m 424 (lt31 p0 p1 p2 p3 p4 v5 b5 v7 v8 v9 v10 b10291 (anL w_1 w_2 p0 p1 [v7, v8, v9] .null) z10391 z10405 w_1) [(.ref w_1), (anL w_1 w_2 p0 p1 [v7, v8, v9] .null)])) X10424 hx rfl (anL_ref _ _ _ _ _ rfl) rfl (pc0 := 424) (pc' := 427) (same := true) rfl (hb hby at_424) rfl (decide_eq_true (by rw [own_anL, ← hz_10391, ← hz_10405]; simp [hc10420] : (anL w_1 w_2 p0 p1 [v7, v8, v9] .null) = (.ref w_1))) (by decide) (by decide) ?_
            show Sp p e below T10424 (mkF m 427 (lt31 p0 p1 p2 p3 p4 v5 b5 v7 v8 v9 v10 b10291 (anL w_1 w_2 p0 p1 [v7, v8, v9] .null) z10391 z10405 w_1) []) _
            refine XS.iconst X10424.here hx rfl (hb hby at_427) ?_
            show Sp p e below T10424 (mkF m 428 (lt31 p0 p1 p2 p3 p4 v5 b5 v7 v8 v9 v10 b10291 (anL w_1 w_2 p0 p1 [v7, v8, v9] .null) z10391 z10405 w_1) [(.int (1 : Int32))]) _
            refine XS.goto X10424.here hx rfl (pc0 := 428) (pc' := 432) rfl (hb hby at_428) (by decide) (by decide) ?_
            show Sp p e below T10424 (mkF m 432 (lt31 p0 p1 p2 p3 p4 v5 b5 v7 v8 v9 v10 b10291 (anL w_1 w_2 p0 p1 [v7, v8, v9] .null) z10391 z10405 w_1) [(.int (1 : Int32))]) _
            exact retN X10424 hx (t := .boolean) Bd.returns (by simp) (hb hby at_432) hr
          · show Q0 Z w_1 w_2 p0 p1 p2 p3 p4 h0 n0 _ T10424.heap _
            rw [e10424]
            exact ⟨rfl, N10405, trivial⟩

set_option maxRecDepth 65536 in
set_option maxHeartbeats 40000000 in
theorem comes_1 {Post : Tables → Env → Array Value → State → Outcome → State → Prop} (hpost : ∀ tb e args s v u, (limb_1_1.after args s (.returned v) u = true ∧ limb_1_2.after args s (.returned v) u = true ∧ True) → FrameEnd s (.returned v) u (Jvm.fieldLocs frame_1_writes args s ++ Jvm.arrayLocs frame_1_arrays args s ++ Jvm.staticLocs frame_1_statics s) 32 1600 → Post tb e args s (.returned v) u) :
    ArmFor flags0 classFile x code maxLocals ret World_1 tables_1 room_1 Calls_1 rest_1 Pre_1 Post := by
  intro l hfl _ _ p e ha hc hk s m args below hf hA hF happ hP
  obtain ⟨hcalls, hrest, hpre⟩ := hP
  obtain ⟨-, -, -, hnamed, -, -, -, hat⟩ := (Spec.applies_iff hf).mp happ
  obtain ⟨hg, hn⟩ := and_e (Cond.before_iff.mp (show (Jvm.Cond.and given_1 narrow_1).before args s = true from hpre))
  obtain ⟨g10425, g10426⟩ := and_e hg
  obtain ⟨g10427, g10428⟩ := and_e g10426
  obtain ⟨g10429, g10430⟩ := and_e g10428
  obtain ⟨g10431, g10432⟩ := and_e g10430
  obtain ⟨g10433, g10434⟩ := and_e g10432
  obtain ⟨w0, w1, w2, w3, w4, rfl⟩ : ∃ w0 w1 w2 w3 w4 : Value, args = #[w0, w1, w2, w3, w4] := by
    have hs : args.size = 5 := by simpa [Cond.value, given_1] using g10425
    obtain ⟨L⟩ := args
    match L, hs with
    | [w0, w1, w2, w3, w4], _ => exact ⟨w0, w1, w2, w3, w4, rfl⟩
  have hw := fun d (hd : d ∈ tables_1) => atoms_spec (ws := Jvm.Cond.code x code maxLocals ret :: tables_1) hat d (List.mem_cons_of_mem _ hd)
  have hfit : Fit s := fun {y c} hc i hi => by
    obtain ⟨ha, rfl⟩ := Array.getElem?_eq_some_iff.mp hc
    have q := List.all_eq_true.mp ((Array.all_eq_true_iff_forall_mem.mp hF) _ (Array.getElem_mem ha)) i (List.mem_range.mpr hi)
    simpa [Array.getElem?_eq_getElem hi] using q
  obtain ⟨i0, ei0⟩ := is_v g10427
  obtain rfl : w0 = (.int i0) := Option.some.inj ei0
  obtain ⟨i1, ei1⟩ := is_v g10429
  obtain rfl : w1 = (.int i1) := Option.some.inj ei1
  obtain ⟨i2, ei2⟩ := is_v g10431
  obtain rfl : w2 = (.int i2) := Option.some.inj ei2
  obtain ⟨i3, ei3⟩ := is_v g10433
  obtain rfl : w3 = (.int i3) := Option.some.inj ei3
  obtain ⟨i4, ei4⟩ := is_v g10434
  obtain rfl : w4 = (.int i4) := Option.some.inj ei4
  obtain ⟨hsets, hown0⟩ := atoms_of _ (rest_1_c_eq ▸ (show rest_1_c.before _ s = true from hrest))
  obtain ⟨n1, n2⟩ := and_e hn
  obtain ⟨w_1, ew_1⟩ := exa_v n1
  have S_1 : Sta s s.heap "com/example/vetd/vetd/Decision" "DENY" "Lcom/example/vetd/vetd/Decision;" (.ref w_1) := Sta.start ew_1 (Or.inr ⟨(hw _ (tk 89 rfl)), (hw _ (tk 90 rfl))⟩)
  have E_1 : Exa s s.heap w_1 "com/example/vetd/vetd/Decision" := Exa.start ew_1 n1
  obtain ⟨w_2, ew_2⟩ := exa_v n2
  have S_2 : Sta s s.heap "com/example/vetd/vetd/Decision" "PERMIT" "Lcom/example/vetd/vetd/Decision;" (.ref w_2) := Sta.start ew_2 (Or.inr ⟨(hw _ (tk 89 rfl)), (hw _ (tk 93 rfl))⟩)
  have E_2 : Exa s s.heap w_2 "com/example/vetd/vetd/Decision" := Exa.start ew_2 n2
  have S_3 : Sta s s.heap "java/util/BitSet" "$assertionsDisabled" "Z" (.int (1 : Int32)) := Sta.start (own_sint (Cond.before_iff.mp (hsets _ (tk 2 rfl)))) (Or.inl (hsets _ (tk 1 rfl)))
  have hS : StF s w_1 w_2 := ⟨S_1, E_1, S_2, E_2, S_3⟩
  obtain ⟨n, o, h1, h2, h3, _, L, rfl, ⟨hv, N, -⟩, hq⟩ := rm0 l s _ hw hsets tables_1 w_1 w_2 hS i0 i1 i2 i3 i4 s.heap s.heap.size (Old.start s) p e ha hc hk s m _ below hf ((Spec.applies_iff_loose hf).mp happ).1 ⟨rfl, State.Warmed39.refl s, rfl⟩ trivial
  subst hv
  refine ⟨n, _, h1, h2, h3, hpost _ _ _ _ _ _ ⟨Cond.after_iff.mpr rfl, Cond.after_iff.mpr (eq_i res_at (Term.int_eval (1)) rfl), trivial⟩ ⟨hq.1, hq.2.1, (hq.2.2.sift fun y hy => Or.inr (N y hy)).mono (by decide) (by decide)⟩⟩
theorem main_1_1 : Claimed_1_1 := comes_1 fun _ _ _ _ _ _ h hF => ⟨h.1, hF⟩
theorem main_1_2 : Claimed_1_2 := comes_1 fun _ _ _ _ _ _ h hF => ⟨h.2.1, hF⟩
end Jvm.Pilot.@@N@@
namespace Jvm.Pilot.@@N@@
open Jvm Jvm.ClassFile Sem Op Lib Jvm.Free Jvm.Stand Jvm.Pilot.@@N@@.Jvm.D
/-! MADE BY PROGRAM (witnessworld.py) out of the Statement's table words and the real class files: 19 classes; the members and pool entries that the words name. The judged class is class 1, her method 1. -/
namespace start1
open Jvm.ClassFile
def u (s : String) : CpInfo := .utf8 (stringToUtf16 s)
/-- a pool by its gaps: so many unusable entries, then the entry; so many at the end -/
def gap : Nat → List CpInfo → List CpInfo
  | 0, r => r
  | n + 1, r => .unusable :: gap n r
def poolList (es : List (Nat × CpInfo)) (last : Nat) : List CpInfo := es.foldr (fun e r => gap e.1 (e.2 :: r)) (gap last [])
def pool (es : List (Nat × CpInfo)) (last : Nat) : Array CpInfo := ⟨poolList es last⟩
def fileOf (pool : Array CpInfo) (this : Nat) (attrs : Array Attribute := #[]) (ms : Array MethodInfo := #[]) (fl : Nat := 33) (sup : Nat := 0) (ifs : Array Nat := #[]) (fds : Array FieldInfo := #[]) : ClassFile where
  minorVersion := 0
  majorVersion := 65
  constantPool := pool
  accessFlags := fl
  thisClass := this
  superClass := sup
  interfaces := ifs
  fields := fds
  methods := ms
  attributes := attrs
def plain (name : String) (sup : Option ClassId) : Class where
  name := name
  kind := .ordinary
  loader := none
  accessFlags := 33
  super := sup
  interfaces := #[]
  cf := none
  fields := #[]
  methods := #[]
  instanceTypes := #[]
  staticTypes := #[]
  resolved := #[]
  callSites := []
  init := .initialized
  statics := none
  mirror := none

def pool0 : Array CpInfo := pool [(5, u "<init>"), (0, u "()V"), (1, .class_ 10), (1, u "java/lang/Object")] 113

def k0c0 : Code := { maxStack := 0, maxLocals := 1, code := object_method_1_code, exceptionTable := #[], attributes := #[] }
def k0m0 : Method := { name := "<init>", desc := "()V", sig := { parameters := [], returnType := none }, accessFlags := 1, code := some k0c0 }
/-- java/lang/Object -/
def k0 : Class := { plain "java/lang/Object" none with
  accessFlags := 33
  interfaces := #[]
  cf := some (fileOf pool0 8 #[] #[{ accessFlags := 1, nameIndex := 5, descriptorIndex := 6, attributes := #[] }] 33 0 #[] #[])
  fields := #[]
  methods := #[k0m0]
  instanceTypes := #[]
  staticTypes := #[]
  resolved := Array.replicate 124 none
  statics := none }

def pool1 : Array CpInfo := pool [(2, .class_ 4), (0, .nameAndType 5 6), (0, u "java/lang/Object"), (0, u "<init>"), (0, u "()V"), (0, .class_ 8), (0, u "com/example/vetd/vetd/Policy$Lines"), (0, .methodref 7 3), (0, .fieldref 7 11), (0, .nameAndType 12 13), (0, u "permitted"), (0, u "Ljava/util/BitSet;"), (0, .methodref 15 16), (0, .class_ 17), (0, .nameAndType 18 19), (0, u "java/util/BitSet"), (0, u "set"), (0, u "(I)V"), (0, .fieldref 7 21), (0, .nameAndType 22 13), (0, u "denied"), (0, .methodref 7 24), (0, .nameAndType 25 26), (0, u "answer"), (0, u "([I)Lcom/example/vetd/vetd/Decision;"), (0, .methodref 28 29), (0, .class_ 30), (0, .nameAndType 31 32), (0, u "com/example/vetd/vetd/LinesAnswerPinLaw"), (0, u "has"), (0, u "(II)Z"), (0, .fieldref 34 35), (0, .class_ 36), (0, .nameAndType 37 38), (0, u "com/example/vetd/vetd/Decision"), (0, u "DENY"), (0, u "Lcom/example/vetd/vetd/Decision;"), (0, .fieldref 34 40), (0, .nameAndType 41 38), (0, u "PERMIT"), (2, u "law"), (0, u "(IIIII)Z")] 9

def k1m0 : Method := { name := "<init>", desc := "()V", sig := { parameters := [], returnType := none }, accessFlags := 1, code := none }
def k1c1 : Code := { maxStack := 5, maxLocals := 16, code := code, exceptionTable := #[], attributes := #[] }
def k1m1 : Method := { name := "law", desc := "(IIIII)Z", sig := { parameters := [.int, .int, .int, .int, .int], returnType := some .boolean }, accessFlags := 9, code := some k1c1 }
def k1c2 : Code := { maxStack := 2, maxLocals := 2, code := method_3_code, exceptionTable := #[], attributes := #[] }
def k1m2 : Method := { name := "has", desc := "(II)Z", sig := { parameters := [.int, .int], returnType := some .boolean }, accessFlags := 10, code := some k1c2 }
/-- com/example/vetd/vetd/LinesAnswerPinLaw -/
def k1 : Class := { plain "com/example/vetd/vetd/LinesAnswerPinLaw" (some 0) with
  accessFlags := 49
  interfaces := #[]
  cf := some (fileOf pool1 28 #[] #[{ accessFlags := 1, nameIndex := 5, descriptorIndex := 6, attributes := #[] }, { accessFlags := 9, nameIndex := 44, descriptorIndex := 45, attributes := #[] }, { accessFlags := 10, nameIndex := 31, descriptorIndex := 32, attributes := #[] }] 49 2 #[] #[])
  fields := #[]
  methods := #[k1m0, k1m1, k1m2]
  instanceTypes := #[]
  staticTypes := #[]
  resolved := Array.replicate 55 none
  statics := none }

def pool2 : Array CpInfo := pool [(1, .methodref 2 3), (0, .class_ 4), (0, .nameAndType 5 6), (0, u "java/lang/Object"), (0, u "<init>"), (0, u "()V"), (0, .class_ 8), (0, u "java/util/BitSet"), (0, .methodref 7 3), (0, .fieldref 11 12), (0, .class_ 13), (0, .nameAndType 14 15), (0, u "com/example/vetd/vetd/Policy$Lines"), (0, u "permitted"), (0, u "Ljava/util/BitSet;"), (0, .fieldref 11 17), (0, .nameAndType 18 15), (0, u "denied"), (0, .methodref 7 20), (0, .nameAndType 21 22), (0, u "get"), (0, u "(I)Z"), (0, .fieldref 24 25), (0, .class_ 26), (0, .nameAndType 27 28), (0, u "com/example/vetd/vetd/Decision"), (0, u "DENY"), (0, u "Lcom/example/vetd/vetd/Decision;"), (0, .fieldref 24 30), (0, .nameAndType 31 28), (0, u "PERMIT"), (2, u "answer"), (0, u "([I)Lcom/example/vetd/vetd/Decision;"), (6, .class_ 43), (0, u "com/example/vetd/vetd/Policy")] 2

def k2c0 : Code := { maxStack := 3, maxLocals := 1, code := prog_20_method_1_code, exceptionTable := #[], attributes := #[] }
def k2m0 : Method := { name := "<init>", desc := "()V", sig := { parameters := [], returnType := none }, accessFlags := 0, code := some k2c0 }
def k2c1 : Code := { maxStack := 2, maxLocals := 7, code := prog_20_method_2_code, exceptionTable := #[], attributes := #[] }
def k2m1 : Method := { name := "answer", desc := "([I)Lcom/example/vetd/vetd/Decision;", sig := { parameters := [(.array .int)], returnType := some (.object "com/example/vetd/vetd/Decision") }, accessFlags := 0, code := some k2c1 }
/-- com/example/vetd/vetd/Policy$Lines -/
def k2 : Class := { plain "com/example/vetd/vetd/Policy$Lines" (some 0) with
  accessFlags := 32
  interfaces := #[]
  cf := some (fileOf pool2 11 #[.nestHost 42] #[{ accessFlags := 0, nameIndex := 5, descriptorIndex := 6, attributes := #[] }, { accessFlags := 0, nameIndex := 34, descriptorIndex := 35, attributes := #[] }] 32 2 #[] #[{ accessFlags := 16, nameIndex := 14, descriptorIndex := 15, attributes := #[] }, { accessFlags := 16, nameIndex := 18, descriptorIndex := 15, attributes := #[] }])
  fields := #[{ name := "permitted", type := (.object "java/util/BitSet"), accessFlags := 16, slot := 0, constantValue := 0 }, { name := "denied", type := (.object "java/util/BitSet"), accessFlags := 16, slot := 1, constantValue := 0 }]
  methods := #[k2m0, k2m1]
  instanceTypes := #[(.object "java/util/BitSet"), (.object "java/util/BitSet")]
  staticTypes := #[]
  resolved := Array.replicate 46 none
  statics := none }

def pool3 : Array CpInfo := pool [(1, .class_ 2), (0, u "java/lang/Cloneable"), (0, .class_ 4), (0, u "java/lang/Object")] 2

/-- java/lang/Cloneable -/
def k3 : Class := { plain "java/lang/Cloneable" (some 0) with
  accessFlags := 1537
  interfaces := #[]
  cf := some (fileOf pool3 1 #[] #[] 1537 3 #[] #[])
  fields := #[]
  methods := #[]
  instanceTypes := #[]
  staticTypes := #[]
  resolved := Array.replicate 7 none
  statics := none }

def pool4 : Array CpInfo := pool [(1, .class_ 2), (0, u "java/io/Serializable"), (0, .class_ 4), (0, u "java/lang/Object")] 2

/-- java/io/Serializable -/
def k4 : Class := { plain "java/io/Serializable" (some 0) with
  accessFlags := 1537
  interfaces := #[]
  cf := some (fileOf pool4 1 #[] #[] 1537 3 #[] #[])
  fields := #[]
  methods := #[]
  instanceTypes := #[]
  staticTypes := #[]
  resolved := Array.replicate 7 none
  statics := none }

def pool5 : Array CpInfo := pool [(1, .class_ 2), (0, u "java/util/BitSet"), (0, .fieldref 1 4), (0, .nameAndType 5 6), (0, u "$assertionsDisabled"), (0, u "Z"), (0, .fieldref 1 8), (0, .nameAndType 9 10), (0, u "wordsInUse"), (0, u "I"), (0, .fieldref 1 12), (0, .nameAndType 13 14), (0, u "words"), (0, u "[J"), (3, .nameAndType 19 20), (0, u "<init>"), (0, u "()V"), (0, .methodref 22 18), (0, .class_ 23), (0, u "java/lang/Object"), (0, .fieldref 1 25), (0, .nameAndType 26 6), (0, u "sizeIsSticky"), (0, .methodref 1 28), (0, .nameAndType 29 30), (0, u "initWords"), (0, u "(I)V"), (21, .methodref 1 53), (0, .nameAndType 54 55), (0, u "wordIndex"), (0, u "(I)I"), (0, .methodref 1 57), (0, .nameAndType 58 20), (0, u "checkInvariants"), (0, .methodref 60 61), (0, .class_ 62), (0, .nameAndType 63 64), (0, u "java/util/Arrays"), (0, u "copyOf"), (0, u "([JI)[J"), (15, u "get"), (52, .methodref 134 135), (0, .class_ 136), (0, .nameAndType 137 138), (0, u "java/lang/Math"), (0, u "max"), (0, u "(II)I"), (0, .methodref 1 140), (0, .nameAndType 141 30), (0, u "ensureCapacity"), (13, .methodref 1 156), (0, .nameAndType 157 30), (0, u "expandTo"), (11, u "set"), (99, .class_ 270), (0, u "java/util/BitSet$1BitSetSpliterator"), (22, u "serialPersistentFields"), (0, u "[Ljava/io/ObjectStreamField;"), (0, .class_ 296), (0, u "java/lang/Cloneable"), (0, .class_ 298), (0, u "java/io/Serializable"), (0, u "ADDRESS_BITS_PER_WORD"), (2, u "BITS_PER_WORD"), (1, u "BIT_INDEX_MASK"), (1, u "WORD_MASK"), (0, u "J"), (0, u "serialVersionUID"), (42, u "(I)Z")] 65

def k5c0 : Code := { maxStack := 2, maxLocals := 1, code := jdk_92_method_1_code, exceptionTable := #[], attributes := #[] }
def k5m0 : Method := { name := "wordIndex", desc := "(I)I", sig := { parameters := [.int], returnType := some .int }, accessFlags := 10, code := some k5c0 }
def k5c1 : Code := { maxStack := 4, maxLocals := 1, code := jdk_92_method_2_code, exceptionTable := #[], attributes := #[] }
def k5m1 : Method := { name := "checkInvariants", desc := "()V", sig := { parameters := [], returnType := none }, accessFlags := 2, code := some k5c1 }
def k5c2 : Code := { maxStack := 2, maxLocals := 1, code := jdk_92_method_4_code, exceptionTable := #[], attributes := #[] }
def k5m2 : Method := { name := "<init>", desc := "()V", sig := { parameters := [], returnType := none }, accessFlags := 1, code := some k5c2 }
def k5c3 : Code := { maxStack := 3, maxLocals := 2, code := jdk_92_method_6_code, exceptionTable := #[], attributes := #[] }
def k5m3 : Method := { name := "initWords", desc := "(I)V", sig := { parameters := [.int], returnType := none }, accessFlags := 2, code := some k5c3 }
def k5c4 : Code := { maxStack := 3, maxLocals := 3, code := jdk_92_method_14_code, exceptionTable := #[], attributes := #[] }
def k5m4 : Method := { name := "ensureCapacity", desc := "(I)V", sig := { parameters := [.int], returnType := none }, accessFlags := 2, code := some k5c4 }
def k5c5 : Code := { maxStack := 2, maxLocals := 3, code := jdk_92_method_15_code, exceptionTable := #[], attributes := #[] }
def k5m5 : Method := { name := "expandTo", desc := "(I)V", sig := { parameters := [.int], returnType := none }, accessFlags := 2, code := some k5c5 }
def k5c6 : Code := { maxStack := 7, maxLocals := 3, code := jdk_92_method_19_code, exceptionTable := #[], attributes := #[] }
def k5m6 : Method := { name := "set", desc := "(I)V", sig := { parameters := [.int], returnType := none }, accessFlags := 1, code := some k5c6 }
def k5c7 : Code := { maxStack := 5, maxLocals := 3, code := jdk_92_method_26_code, exceptionTable := #[], attributes := #[] }
def k5m7 : Method := { name := "get", desc := "(I)Z", sig := { parameters := [.int], returnType := some .boolean }, accessFlags := 1, code := some k5c7 }
/-- java/util/BitSet -/
def k5 : Class := { plain "java/util/BitSet" (some 0) with
  accessFlags := 33
  interfaces := #[3, 4]
  cf := some (fileOf pool5 1 #[.nestMembers #[269]] #[{ accessFlags := 10, nameIndex := 54, descriptorIndex := 55, attributes := #[] }, { accessFlags := 2, nameIndex := 58, descriptorIndex := 20, attributes := #[] }, { accessFlags := 1, nameIndex := 19, descriptorIndex := 20, attributes := #[] }, { accessFlags := 2, nameIndex := 29, descriptorIndex := 30, attributes := #[] }, { accessFlags := 2, nameIndex := 141, descriptorIndex := 30, attributes := #[] }, { accessFlags := 2, nameIndex := 157, descriptorIndex := 30, attributes := #[] }, { accessFlags := 1, nameIndex := 169, descriptorIndex := 30, attributes := #[] }, { accessFlags := 1, nameIndex := 80, descriptorIndex := 351, attributes := #[] }] 33 22 #[295, 297] #[{ accessFlags := 26, nameIndex := 299, descriptorIndex := 10, attributes := #[] }, { accessFlags := 26, nameIndex := 302, descriptorIndex := 10, attributes := #[] }, { accessFlags := 26, nameIndex := 304, descriptorIndex := 10, attributes := #[] }, { accessFlags := 26, nameIndex := 306, descriptorIndex := 307, attributes := #[] }, { accessFlags := 26, nameIndex := 293, descriptorIndex := 294, attributes := #[] }, { accessFlags := 2, nameIndex := 13, descriptorIndex := 14, attributes := #[] }, { accessFlags := 130, nameIndex := 9, descriptorIndex := 10, attributes := #[] }, { accessFlags := 130, nameIndex := 26, descriptorIndex := 6, attributes := #[] }, { accessFlags := 26, nameIndex := 308, descriptorIndex := 307, attributes := #[] }, { accessFlags := 4120, nameIndex := 5, descriptorIndex := 6, attributes := #[] }])
  fields := #[{ name := "ADDRESS_BITS_PER_WORD", type := .int, accessFlags := 26, slot := 0, constantValue := 0 }, { name := "BITS_PER_WORD", type := .int, accessFlags := 26, slot := 1, constantValue := 0 }, { name := "BIT_INDEX_MASK", type := .int, accessFlags := 26, slot := 2, constantValue := 0 }, { name := "WORD_MASK", type := .long, accessFlags := 26, slot := 3, constantValue := 0 }, { name := "serialPersistentFields", type := (.array (.object "java/io/ObjectStreamField")), accessFlags := 26, slot := 4, constantValue := 0 }, { name := "words", type := (.array .long), accessFlags := 2, slot := 0, constantValue := 0 }, { name := "wordsInUse", type := .int, accessFlags := 130, slot := 1, constantValue := 0 }, { name := "sizeIsSticky", type := .boolean, accessFlags := 130, slot := 2, constantValue := 0 }, { name := "serialVersionUID", type := .long, accessFlags := 26, slot := 5, constantValue := 0 }, { name := "$assertionsDisabled", type := .boolean, accessFlags := 4120, slot := 6, constantValue := 0 }]
  methods := #[k5m0, k5m1, k5m2, k5m3, k5m4, k5m5, k5m6, k5m7]
  instanceTypes := #[(.array .long), .int, .boolean]
  staticTypes := #[.int, .int, .int, .long, (.array (.object "java/io/ObjectStreamField")), .long, .boolean]
  resolved := Array.replicate 417 none
  statics := some 0 }

def pool6 : Array CpInfo := pool [(1, .class_ 2), (0, u "java/lang/Math"), (1, .class_ 6), (1, u "java/lang/Object"), (0, u "<init>"), (0, u "()V"), (89, .class_ 100), (1, u "java/lang/Math$RandomNumberGeneratorHolder"), (71, u "negativeZeroFloatBits"), (0, u "J"), (2, u "negativeZeroDoubleBits"), (21, u "max"), (2, u "min"), (43, u "$assertionsDisabled"), (0, u "Z"), (88, u "(II)I"), (2, u "twoToTheDoubleScaleDown"), (0, u "D"), (4, u "twoToTheDoubleScaleUp"), (9, u "E"), (3, u "PI"), (2, u "TAU"), (2, u "DEGREES_TO_RADIANS"), (0, u "RADIANS_TO_DEGREES")] 94

def k6m0 : Method := { name := "<init>", desc := "()V", sig := { parameters := [], returnType := none }, accessFlags := 2, code := none }
def k6c1 : Code := { maxStack := 2, maxLocals := 2, code := jdk_29_method_65_code, exceptionTable := #[], attributes := #[] }
def k6m1 : Method := { name := "max", desc := "(II)I", sig := { parameters := [.int, .int], returnType := some .int }, accessFlags := 9, code := some k6c1 }
def k6c2 : Code := { maxStack := 2, maxLocals := 2, code := jdk_29_method_69_code, exceptionTable := #[], attributes := #[] }
def k6m2 : Method := { name := "min", desc := "(II)I", sig := { parameters := [.int, .int], returnType := some .int }, accessFlags := 9, code := some k6c2 }
/-- java/lang/Math -/
def k6 : Class := { plain "java/lang/Math" (some 0) with
  accessFlags := 49
  interfaces := #[]
  cf := some (fileOf pool6 1 #[.nestMembers #[98]] #[{ accessFlags := 2, nameIndex := 7, descriptorIndex := 8, attributes := #[] }, { accessFlags := 9, nameIndex := 198, descriptorIndex := 335, attributes := #[] }, { accessFlags := 9, nameIndex := 201, descriptorIndex := 335, attributes := #[] }] 49 4 #[] #[{ accessFlags := 25, nameIndex := 354, descriptorIndex := 339, attributes := #[] }, { accessFlags := 25, nameIndex := 358, descriptorIndex := 339, attributes := #[] }, { accessFlags := 25, nameIndex := 361, descriptorIndex := 339, attributes := #[] }, { accessFlags := 26, nameIndex := 364, descriptorIndex := 339, attributes := #[] }, { accessFlags := 26, nameIndex := 365, descriptorIndex := 339, attributes := #[] }, { accessFlags := 26, nameIndex := 172, descriptorIndex := 173, attributes := #[] }, { accessFlags := 26, nameIndex := 176, descriptorIndex := 173, attributes := #[] }, { accessFlags := 8, nameIndex := 344, descriptorIndex := 339, attributes := #[] }, { accessFlags := 8, nameIndex := 338, descriptorIndex := 339, attributes := #[] }, { accessFlags := 4120, nameIndex := 245, descriptorIndex := 246, attributes := #[] }])
  fields := #[{ name := "E", type := .double, accessFlags := 25, slot := 0, constantValue := 0 }, { name := "PI", type := .double, accessFlags := 25, slot := 1, constantValue := 0 }, { name := "TAU", type := .double, accessFlags := 25, slot := 2, constantValue := 0 }, { name := "DEGREES_TO_RADIANS", type := .double, accessFlags := 26, slot := 3, constantValue := 0 }, { name := "RADIANS_TO_DEGREES", type := .double, accessFlags := 26, slot := 4, constantValue := 0 }, { name := "negativeZeroFloatBits", type := .long, accessFlags := 26, slot := 5, constantValue := 0 }, { name := "negativeZeroDoubleBits", type := .long, accessFlags := 26, slot := 6, constantValue := 0 }, { name := "twoToTheDoubleScaleUp", type := .double, accessFlags := 8, slot := 7, constantValue := 0 }, { name := "twoToTheDoubleScaleDown", type := .double, accessFlags := 8, slot := 8, constantValue := 0 }, { name := "$assertionsDisabled", type := .boolean, accessFlags := 4120, slot := 9, constantValue := 0 }]
  methods := #[k6m0, k6m1, k6m2]
  instanceTypes := #[]
  staticTypes := #[.double, .double, .double, .double, .double, .long, .long, .double, .double, .boolean]
  resolved := Array.replicate 460 none
  statics := none }

def pool7 : Array CpInfo := pool [(2, .class_ 4), (1, u "java/lang/Object"), (0, u "<init>"), (0, u "()V"), (7, .class_ 16), (1, u "java/util/Arrays"), (57, .class_ 76), (1, u "java/util/Arrays$NaturalOrder"), (36, .class_ 115), (1, u "java/util/Arrays$LegacyMergeSort"), (1, u "Z"), (32, .methodref 151 152), (0, .class_ 153), (0, .nameAndType 154 155), (0, u "java/lang/System"), (0, u "arraycopy"), (0, u "(Ljava/lang/Object;ILjava/lang/Object;II)V"), (146, u "copyOf"), (1, .methodref 305 306), (0, .class_ 307), (0, .nameAndType 308 309), (0, u "java/lang/Math"), (0, u "min"), (0, u "(II)I"), (65, .class_ 376), (0, u "java/util/Arrays$ArrayList"), (68, u "$assertionsDisabled"), (269, u "MIN_ARRAY_SORT_GRAN"), (0, u "I"), (2, u "INSERTIONSORT_THRESHOLD"), (152, u "([JI)[J"), (102, .class_ 976), (0, u "java/util/Arrays$ArrayItr")] 52

def k7m0 : Method := { name := "<init>", desc := "()V", sig := { parameters := [], returnType := none }, accessFlags := 2, code := none }
def k7c1 : Code := { maxStack := 6, maxLocals := 3, code := jdk_65_method_124_code, exceptionTable := #[], attributes := #[] }
def k7m1 : Method := { name := "copyOf", desc := "([JI)[J", sig := { parameters := [(.array .long), .int], returnType := some (.array .long) }, accessFlags := 9, code := some k7c1 }
/-- java/util/Arrays -/
def k7 : Class := { plain "java/util/Arrays" (some 0) with
  accessFlags := 49
  interfaces := #[]
  cf := some (fileOf pool7 14 #[.nestMembers #[975, 375, 113, 74]] #[{ accessFlags := 2, nameIndex := 5, descriptorIndex := 6, attributes := #[] }, { accessFlags := 9, nameIndex := 302, descriptorIndex := 872, attributes := #[] }] 49 2 #[] #[{ accessFlags := 26, nameIndex := 715, descriptorIndex := 716, attributes := #[] }, { accessFlags := 26, nameIndex := 719, descriptorIndex := 716, attributes := #[] }, { accessFlags := 4120, nameIndex := 445, descriptorIndex := 117, attributes := #[] }])
  fields := #[{ name := "MIN_ARRAY_SORT_GRAN", type := .int, accessFlags := 26, slot := 0, constantValue := 0 }, { name := "INSERTIONSORT_THRESHOLD", type := .int, accessFlags := 26, slot := 1, constantValue := 0 }, { name := "$assertionsDisabled", type := .boolean, accessFlags := 4120, slot := 2, constantValue := 0 }]
  methods := #[k7m0, k7m1]
  instanceTypes := #[]
  staticTypes := #[.int, .int, .boolean]
  resolved := Array.replicate 1029 none
  statics := none }

def pool8 : Array CpInfo := pool [(2, .class_ 4), (1, u "java/lang/Object"), (0, u "<init>"), (0, u "()V"), (1, .class_ 10), (1, u "java/lang/System"), (0, u "allowSecurityManager"), (0, u "I"), (16, u "cons"), (0, u "Ljava/io/Console;"), (77, .class_ 110), (1, u "java/lang/System$CallersHolder"), (43, u "initialErrStream"), (0, u "Ljava/io/PrintStream;"), (19, u "security"), (0, u "Ljava/lang/SecurityManager;"), (31, .class_ 209), (0, u "java/lang/System$1"), (7, u "props"), (0, u "Ljava/util/Properties;"), (2, u "lineSeparator"), (0, u "Ljava/lang/String;"), (96, .class_ 321), (1, u "java/lang/System$LoggerFinder"), (5, .class_ 328), (0, u "java/lang/System$Logger"), (67, u "err"), (2, u "out"), (91, u "notSupportedJnuEncoding"), (15, u "in"), (17, u "initialIn"), (0, u "Ljava/io/InputStream;"), (35, u "bootLayer"), (0, u "Ljava/lang/ModuleLayer;"), (99, .class_ 664), (0, u "java/lang/System$2"), (9, u "NEVER"), (2, u "MAYBE"), (49, u "arraycopy"), (0, u "(Ljava/lang/Object;ILjava/lang/Object;II)V"), (72, .class_ 802), (0, u "java/lang/System$Logger$Level")] 31

def k8m0 : Method := { name := "<init>", desc := "()V", sig := { parameters := [], returnType := none }, accessFlags := 2, code := none }
def k8m1 : Method := { name := "arraycopy", desc := "(Ljava/lang/Object;ILjava/lang/Object;II)V", sig := { parameters := [(.object "java/lang/Object"), .int, (.object "java/lang/Object"), .int, .int], returnType := none }, accessFlags := 265, code := none }
/-- java/lang/System -/
def k8 : Class := { plain "java/lang/System" (some 0) with
  accessFlags := 49
  interfaces := #[]
  cf := some (fileOf pool8 8 #[.nestMembers #[319, 327, 801, 108, 663, 208]] #[{ accessFlags := 2, nameIndex := 5, descriptorIndex := 6, attributes := #[] }, { accessFlags := 265, nameIndex := 727, descriptorIndex := 728, attributes := #[] }] 49 2 #[] #[{ accessFlags := 25, nameIndex := 507, descriptorIndex := 526, attributes := #[] }, { accessFlags := 25, nameIndex := 399, descriptorIndex := 155, attributes := #[] }, { accessFlags := 25, nameIndex := 396, descriptorIndex := 155, attributes := #[] }, { accessFlags := 10, nameIndex := 525, descriptorIndex := 526, attributes := #[] }, { accessFlags := 26, nameIndex := 674, descriptorIndex := 12, attributes := #[] }, { accessFlags := 26, nameIndex := 677, descriptorIndex := 12, attributes := #[] }, { accessFlags := 10, nameIndex := 11, descriptorIndex := 12, attributes := #[] }, { accessFlags := 74, nameIndex := 175, descriptorIndex := 176, attributes := #[] }, { accessFlags := 10, nameIndex := 491, descriptorIndex := 222, attributes := #[] }, { accessFlags := 74, nameIndex := 29, descriptorIndex := 30, attributes := #[] }, { accessFlags := 74, nameIndex := 154, descriptorIndex := 155, attributes := #[] }, { accessFlags := 10, nameIndex := 217, descriptorIndex := 218, attributes := #[] }, { accessFlags := 10, nameIndex := 221, descriptorIndex := 222, attributes := #[] }, { accessFlags := 8, nameIndex := 562, descriptorIndex := 563, attributes := #[] }])
  fields := #[{ name := "in", type := (.object "java/io/InputStream"), accessFlags := 25, slot := 0, constantValue := 0 }, { name := "out", type := (.object "java/io/PrintStream"), accessFlags := 25, slot := 1, constantValue := 0 }, { name := "err", type := (.object "java/io/PrintStream"), accessFlags := 25, slot := 2, constantValue := 0 }, { name := "initialIn", type := (.object "java/io/InputStream"), accessFlags := 10, slot := 3, constantValue := 0 }, { name := "NEVER", type := .int, accessFlags := 26, slot := 4, constantValue := 0 }, { name := "MAYBE", type := .int, accessFlags := 26, slot := 5, constantValue := 0 }, { name := "allowSecurityManager", type := .int, accessFlags := 10, slot := 6, constantValue := 0 }, { name := "security", type := (.object "java/lang/SecurityManager"), accessFlags := 74, slot := 7, constantValue := 0 }, { name := "notSupportedJnuEncoding", type := (.object "java/lang/String"), accessFlags := 10, slot := 8, constantValue := 0 }, { name := "cons", type := (.object "java/io/Console"), accessFlags := 74, slot := 9, constantValue := 0 }, { name := "initialErrStream", type := (.object "java/io/PrintStream"), accessFlags := 74, slot := 10, constantValue := 0 }, { name := "props", type := (.object "java/util/Properties"), accessFlags := 10, slot := 11, constantValue := 0 }, { name := "lineSeparator", type := (.object "java/lang/String"), accessFlags := 10, slot := 12, constantValue := 0 }, { name := "bootLayer", type := (.object "java/lang/ModuleLayer"), accessFlags := 8, slot := 13, constantValue := 0 }]
  methods := #[k8m0, k8m1]
  instanceTypes := #[]
  staticTypes := #[(.object "java/io/InputStream"), (.object "java/io/PrintStream"), (.object "java/io/PrintStream"), (.object "java/io/InputStream"), .int, .int, .int, (.object "java/lang/SecurityManager"), (.object "java/lang/String"), (.object "java/io/Console"), (.object "java/io/PrintStream"), (.object "java/util/Properties"), (.object "java/lang/String"), (.object "java/lang/ModuleLayer")]
  resolved := Array.replicate 834 none
  statics := none }

def pool9 : Array CpInfo := pool [(1, .class_ 2), (0, u "java/lang/constant/Constable"), (0, .class_ 4), (0, u "java/lang/Object")] 6

/-- java/lang/constant/Constable -/
def k9 : Class := { plain "java/lang/constant/Constable" (some 0) with
  accessFlags := 1537
  interfaces := #[]
  cf := some (fileOf pool9 1 #[] #[] 1537 3 #[] #[])
  fields := #[]
  methods := #[]
  instanceTypes := #[]
  staticTypes := #[]
  resolved := Array.replicate 11 none
  statics := none }

def pool10 : Array CpInfo := pool [(1, .class_ 2), (0, u "java/lang/Comparable"), (0, .class_ 4), (0, u "java/lang/Object")] 7

/-- java/lang/Comparable -/
def k10 : Class := { plain "java/lang/Comparable" (some 0) with
  accessFlags := 1537
  interfaces := #[]
  cf := some (fileOf pool10 1 #[] #[] 1537 3 #[] #[])
  fields := #[]
  methods := #[]
  instanceTypes := #[]
  staticTypes := #[]
  resolved := Array.replicate 12 none
  statics := none }

def pool11 : Array CpInfo := pool [(2, .class_ 4), (1, u "java/lang/Enum"), (0, u "name"), (0, u "Ljava/lang/String;"), (2, u "ordinal"), (0, u "I"), (1, .class_ 14), (1, u "java/lang/Object"), (4, u "hash"), (86, .class_ 108), (1, u "java/lang/Enum$EnumDesc"), (2, .class_ 112), (0, u "java/lang/constant/Constable"), (0, .class_ 114), (0, u "java/lang/Comparable"), (0, .class_ 116), (0, u "java/io/Serializable")] 87

/-- java/lang/Enum -/
def k11 : Class := { plain "java/lang/Enum" (some 0) with
  accessFlags := 1057
  interfaces := #[9, 10, 4]
  cf := some (fileOf pool11 2 #[.nestMembers #[106]] #[] 1057 12 #[111, 113, 115] #[{ accessFlags := 18, nameIndex := 5, descriptorIndex := 6, attributes := #[] }, { accessFlags := 18, nameIndex := 9, descriptorIndex := 10, attributes := #[] }, { accessFlags := 2, nameIndex := 19, descriptorIndex := 10, attributes := #[] }])
  fields := #[{ name := "name", type := (.object "java/lang/String"), accessFlags := 18, slot := 0, constantValue := 0 }, { name := "ordinal", type := .int, accessFlags := 18, slot := 1, constantValue := 0 }, { name := "hash", type := .int, accessFlags := 2, slot := 2, constantValue := 0 }]
  methods := #[]
  instanceTypes := #[(.object "java/lang/String"), .int, .int]
  staticTypes := #[]
  resolved := Array.replicate 204 none
  statics := none }

def pool12 : Array CpInfo := pool [(1, .class_ 2), (0, u "com/example/vetd/vetd/Decision"), (2, u "PERMIT"), (0, u "Lcom/example/vetd/vetd/Decision;"), (2, u "DENY"), (2, u "$VALUES"), (0, u "[Lcom/example/vetd/vetd/Decision;"), (6, .class_ 22), (1, u "java/lang/Enum")] 44

/-- com/example/vetd/vetd/Decision -/
def k12 : Class := { plain "com/example/vetd/vetd/Decision" (some 11) with
  accessFlags := 16433
  interfaces := #[]
  cf := some (fileOf pool12 1 #[] #[] 16433 20 #[] #[{ accessFlags := 16409, nameIndex := 5, descriptorIndex := 6, attributes := #[] }, { accessFlags := 16409, nameIndex := 9, descriptorIndex := 6, attributes := #[] }, { accessFlags := 4122, nameIndex := 12, descriptorIndex := 13, attributes := #[] }])
  fields := #[{ name := "PERMIT", type := (.object "com/example/vetd/vetd/Decision"), accessFlags := 16409, slot := 0, constantValue := 0 }, { name := "DENY", type := (.object "com/example/vetd/vetd/Decision"), accessFlags := 16409, slot := 1, constantValue := 0 }, { name := "$VALUES", type := (.array (.object "com/example/vetd/vetd/Decision")), accessFlags := 4122, slot := 2, constantValue := 0 }]
  methods := #[]
  instanceTypes := #[(.object "java/lang/String"), .int, .int]
  staticTypes := #[(.object "com/example/vetd/vetd/Decision"), (.object "com/example/vetd/vetd/Decision"), (.array (.object "com/example/vetd/vetd/Decision"))]
  resolved := Array.replicate 67 none
  statics := some 1 }

/-- the primitive byte -/
def k13 : Class := { plain "byte" none with kind := .primitive 'B', accessFlags := 0x411 }
/-- [B -/
def k14 : Class := { plain "[B" (some 0) with kind := .array 13 .byte, interfaces := #[3, 4], accessFlags := 1041 }

/-- the primitive int -/
def k15 : Class := { plain "int" none with kind := .primitive 'I', accessFlags := 0x411 }
/-- [I -/
def k16 : Class := { plain "[I" (some 0) with kind := .array 15 .int, interfaces := #[3, 4], accessFlags := 1041 }

/-- the primitive long -/
def k17 : Class := { plain "long" none with kind := .primitive 'J', accessFlags := 0x411 }
/-- [J -/
def k18 : Class := { plain "[J" (some 0) with kind := .array 17 .long, interfaces := #[3, 4], accessFlags := 1041 }

def heap : Heap := #[{ cls := 5, slots := #[.int 0, .int 0, .int 0, .long 0, .null, .long 0, .int 1], vm := .statics 5 },
  { cls := 12, slots := #[.ref 3, .ref 2, .null], vm := .statics 12 },
  { cls := 12, slots := #[.null, .int 0, .int 0], vm := .none },
  { cls := 12, slots := #[.null, .int 0, .int 0], vm := .none }]
def classes : Array Class := #[k0, k1, k2, k3, k4, k5, k6, k7, k8, k9, k10, k11, k12, k13, k14, k15, k16, k17, k18]
def interned : List (Array UInt16 × Addr) := []
def slotsUsed : Nat := 16
def theMethod : MethodId := ⟨1, 1⟩
def args0 : Array Value := #[.int 5, .int 7, .int 3, .int 2, .int 1]
def aboutOver (below : List Frame) : State where
  vm := { classes := classes, interned := interned.toArray }
  heap := heap
  slotsUsed := slotsUsed
  threads := #[{ frames := .invoking theMethod args0 :: below }]
def below0 : List Frame := [.native { method := ⟨0, 0⟩, args := #[] }]
def about1 : State := aboutOver below0
def p0 : Program := .bare "" "" ""
def e0 : Env := launch0.env 0 0 0
theorem w_frames : about1.frames = Frame.invoking theMethod args0 :: below0 := rfl
set_option maxRecDepth 65536 in
theorem w_args : argsFit about1.vm theMethod args0 = true := by decide +kernel
set_option maxRecDepth 65536 in
theorem w_heap : heapFits about1 = true := by decide +kernel
set_option maxRecDepth 65536 in
theorem w_runnable : about1.curStatus? = some .runnable := by decide +kernel
set_option maxRecDepth 65536 in
theorem w_alone : about1.alone = true := by decide +kernel
set_option maxRecDepth 65536 in
theorem w_named : about1.methodNamed? x = some theMethod := by decide +kernel
set_option maxRecDepth 65536 in
theorem w_hears : about1.hears theMethod below0 = true := by decide +kernel
set_option maxRecDepth 65536 in
theorem w_ripe : about1.ripe theMethod args0 below0 = true := by decide +kernel
theorem w_running : about1.status = .running := rfl
set_option maxRecDepth 65536 in
theorem w_room : about1.hasRoom e0.platform room_1 = true :=
  launch0.hasRoom_least _ room_1 (by decide +kernel) (by decide +kernel) (by decide +kernel) (by decide +kernel) (by decide +kernel) (by decide +kernel)
theorem allAtoms_all (ts : List Jvm.Cond) (a : Array Jvm.Value) (st : Jvm.State) : (allAtoms ts).before a st = ts.all (fun c => c.before a st) := by
  induction ts with
  | nil => rfl
  | cons c t ih =>
    show (Jvm.Cond.and c (allAtoms t)).before a st = _
    rw [Jvm.Cond.before_and, ih, List.all_cons]
def words1 : List Jvm.Cond := Jvm.Cond.code x code maxLocals ret :: tables_1
/-- a 'code' word, met by the world's own term for the bytes: nothing is compared byte by byte -/
theorem code_word {y : MethodName} {bytes : ByteArray} {mx : Nat} {rt : Option FieldType} {a : Array Value} {s : State} {m : MethodId} {meth : Method} {c : Code} (h1 : s.methodNamed? y = some m) (h2 : s.vm.method? m = some meth) (h3 : meth.code = some c) (h4 : c.code = bytes)
    (h5 : (c.maxLocals == mx && c.exceptionTable.isEmpty && decide (c.maxStack ≤ mostOperands) && decide (meth.sig.returnType = rt) && !meth.locks && decide (parseMethodDescriptor y.desc = some meth.sig)) = true) : (Jvm.Cond.code y bytes mx rt).before a s = true := by
  simp only [Bool.and_eq_true, beq_iff_eq, Bool.not_eq_true', decide_eq_true_eq] at h5
  obtain ⟨⟨⟨⟨⟨g1, g2⟩, g3⟩, g4⟩, g5⟩, g6⟩ := h5
  simp [Cond.before, Cond.holds, Cond.value, h1, h2, h3, h4, g1, g2, g3, g4, g5, g6]
def isCode : Jvm.Cond → Bool
  | .code _ _ _ _ => true
  | _ => false
theorem all_split {L : List Jvm.Cond} {P : Jvm.Cond → Bool} (h1 : L.all (fun c => isCode c || P c) = true) (h2 : ∀ c ∈ L.filter isCode, P c = true) : L.all P = true := by
  refine List.all_eq_true.mpr fun c hc => ?_
  have h := List.all_eq_true.mp h1 c hc
  rcases Bool.eq_false_or_eq_true (isCode c) with hi | hi
  · exact h2 c (List.mem_filter.mpr ⟨hc, hi⟩)
  · simpa [hi] using h
set_option maxRecDepth 65536 in
theorem w_c0 : (Jvm.Cond.code x code maxLocals ret).before args0 about1 = true := code_word (m := ⟨1, 1⟩) (meth := k1m1) (c := k1c1) (by decide +kernel) rfl rfl rfl (by decide +kernel)
set_option maxRecDepth 65536 in
theorem w_c1 : (Jvm.Cond.code ({ cls := "com/example/vetd/vetd/Policy$Lines", name := "<init>", desc := "()V" } : Jvm.MethodName) prog_20_method_1_code (1 : Nat) (Option.none : Option Jvm.ClassFile.FieldType)).before args0 about1 = true := code_word (m := ⟨2, 0⟩) (meth := k2m0) (c := k2c0) (by decide +kernel) rfl rfl rfl (by decide +kernel)
set_option maxRecDepth 65536 in
theorem w_c2 : (Jvm.Cond.code ({ cls := "java/lang/Object", name := "<init>", desc := "()V" } : Jvm.MethodName) object_method_1_code (1 : Nat) (Option.none : Option Jvm.ClassFile.FieldType)).before args0 about1 = true := code_word (m := ⟨0, 0⟩) (meth := k0m0) (c := k0c0) (by decide +kernel) rfl rfl rfl (by decide +kernel)
set_option maxRecDepth 65536 in
theorem w_c3 : (Jvm.Cond.code ({ cls := "java/util/BitSet", name := "<init>", desc := "()V" } : Jvm.MethodName) jdk_92_method_4_code (1 : Nat) (Option.none : Option Jvm.ClassFile.FieldType)).before args0 about1 = true := code_word (m := ⟨5, 2⟩) (meth := k5m2) (c := k5c2) (by decide +kernel) rfl rfl rfl (by decide +kernel)
set_option maxRecDepth 65536 in
theorem w_c4 : (Jvm.Cond.code ({ cls := "java/util/BitSet", name := "initWords", desc := "(I)V" } : Jvm.MethodName) jdk_92_method_6_code (2 : Nat) (Option.none : Option Jvm.ClassFile.FieldType)).before args0 about1 = true := code_word (m := ⟨5, 3⟩) (meth := k5m3) (c := k5c3) (by decide +kernel) rfl rfl rfl (by decide +kernel)
set_option maxRecDepth 65536 in
theorem w_c5 : (Jvm.Cond.code ({ cls := "java/util/BitSet", name := "wordIndex", desc := "(I)I" } : Jvm.MethodName) jdk_92_method_1_code (1 : Nat) (Option.some Jvm.ClassFile.FieldType.int)).before args0 about1 = true := code_word (m := ⟨5, 0⟩) (meth := k5m0) (c := k5c0) (by decide +kernel) rfl rfl rfl (by decide +kernel)
set_option maxRecDepth 65536 in
theorem w_c6 : (Jvm.Cond.code ({ cls := "java/util/BitSet", name := "set", desc := "(I)V" } : Jvm.MethodName) jdk_92_method_19_code (3 : Nat) (Option.none : Option Jvm.ClassFile.FieldType)).before args0 about1 = true := code_word (m := ⟨5, 6⟩) (meth := k5m6) (c := k5c6) (by decide +kernel) rfl rfl rfl (by decide +kernel)
set_option maxRecDepth 65536 in
theorem w_c7 : (Jvm.Cond.code ({ cls := "java/util/BitSet", name := "expandTo", desc := "(I)V" } : Jvm.MethodName) jdk_92_method_15_code (3 : Nat) (Option.none : Option Jvm.ClassFile.FieldType)).before args0 about1 = true := code_word (m := ⟨5, 5⟩) (meth := k5m5) (c := k5c5) (by decide +kernel) rfl rfl rfl (by decide +kernel)
set_option maxRecDepth 65536 in
theorem w_c8 : (Jvm.Cond.code ({ cls := "java/util/BitSet", name := "ensureCapacity", desc := "(I)V" } : Jvm.MethodName) jdk_92_method_14_code (3 : Nat) (Option.none : Option Jvm.ClassFile.FieldType)).before args0 about1 = true := code_word (m := ⟨5, 4⟩) (meth := k5m4) (c := k5c4) (by decide +kernel) rfl rfl rfl (by decide +kernel)
set_option maxRecDepth 65536 in
theorem w_c9 : (Jvm.Cond.code ({ cls := "java/util/BitSet", name := "checkInvariants", desc := "()V" } : Jvm.MethodName) jdk_92_method_2_code (1 : Nat) (Option.none : Option Jvm.ClassFile.FieldType)).before args0 about1 = true := code_word (m := ⟨5, 1⟩) (meth := k5m1) (c := k5c1) (by decide +kernel) rfl rfl rfl (by decide +kernel)
set_option maxRecDepth 65536 in
theorem w_c10 : (Jvm.Cond.code ({ cls := "com/example/vetd/vetd/Policy$Lines", name := "answer", desc := "([I)Lcom/example/vetd/vetd/Decision;" } : Jvm.MethodName) prog_20_method_2_code (7 : Nat) (Option.some (Jvm.ClassFile.FieldType.object "com/example/vetd/vetd/Decision"))).before args0 about1 = true := code_word (m := ⟨2, 1⟩) (meth := k2m1) (c := k2c1) (by decide +kernel) rfl rfl rfl (by decide +kernel)
set_option maxRecDepth 65536 in
theorem w_c11 : (Jvm.Cond.code ({ cls := "java/util/BitSet", name := "get", desc := "(I)Z" } : Jvm.MethodName) jdk_92_method_26_code (3 : Nat) (Option.some Jvm.ClassFile.FieldType.boolean)).before args0 about1 = true := code_word (m := ⟨5, 7⟩) (meth := k5m7) (c := k5c7) (by decide +kernel) rfl rfl rfl (by decide +kernel)
set_option maxRecDepth 65536 in
theorem w_c12 : (Jvm.Cond.code ({ cls := "com/example/vetd/vetd/LinesAnswerPinLaw", name := "has", desc := "(II)Z" } : Jvm.MethodName) method_3_code (2 : Nat) (Option.some Jvm.ClassFile.FieldType.boolean)).before args0 about1 = true := code_word (m := ⟨1, 2⟩) (meth := k1m2) (c := k1c2) (by decide +kernel) rfl rfl rfl (by decide +kernel)
set_option maxRecDepth 65536 in
theorem w_c13 : (Jvm.Cond.code ({ cls := "java/lang/Math", name := "max", desc := "(II)I" } : Jvm.MethodName) jdk_29_method_65_code (2 : Nat) (Option.some Jvm.ClassFile.FieldType.int)).before args0 about1 = true := code_word (m := ⟨6, 1⟩) (meth := k6m1) (c := k6c1) (by decide +kernel) rfl rfl rfl (by decide +kernel)
set_option maxRecDepth 65536 in
theorem w_c14 : (Jvm.Cond.code ({ cls := "java/util/Arrays", name := "copyOf", desc := "([JI)[J" } : Jvm.MethodName) jdk_65_method_124_code (3 : Nat) (Option.some (Jvm.ClassFile.FieldType.array Jvm.ClassFile.FieldType.long))).before args0 about1 = true := code_word (m := ⟨7, 1⟩) (meth := k7m1) (c := k7c1) (by decide +kernel) rfl rfl rfl (by decide +kernel)
set_option maxRecDepth 65536 in
theorem w_c15 : (Jvm.Cond.code ({ cls := "java/lang/Math", name := "min", desc := "(II)I" } : Jvm.MethodName) jdk_29_method_69_code (2 : Nat) (Option.some Jvm.ClassFile.FieldType.int)).before args0 about1 = true := code_word (m := ⟨6, 2⟩) (meth := k6m2) (c := k6c2) (by decide +kernel) rfl rfl rfl (by decide +kernel)
def codes1 : List Jvm.Cond := [Jvm.Cond.code x code maxLocals ret, Jvm.Cond.code ({ cls := "com/example/vetd/vetd/Policy$Lines", name := "<init>", desc := "()V" } : Jvm.MethodName) prog_20_method_1_code (1 : Nat) (Option.none : Option Jvm.ClassFile.FieldType), Jvm.Cond.code ({ cls := "java/lang/Object", name := "<init>", desc := "()V" } : Jvm.MethodName) object_method_1_code (1 : Nat) (Option.none : Option Jvm.ClassFile.FieldType), Jvm.Cond.code ({ cls := "java/util/BitSet", name := "<init>", desc := "()V" } : Jvm.MethodName) jdk_92_method_4_code (1 : Nat) (Option.none : Option Jvm.ClassFile.FieldType), Jvm.Cond.code ({ cls := "java/util/BitSet", name := "initWords", desc := "(I)V" } : Jvm.MethodName) jdk_92_method_6_code (2 : Nat) (Option.none : Option Jvm.ClassFile.FieldType), Jvm.Cond.code ({ cls := "java/util/BitSet", name := "wordIndex", desc := "(I)I" } : Jvm.MethodName) jdk_92_method_1_code (1 : Nat) (Option.some Jvm.ClassFile.FieldType.int), Jvm.Cond.code ({ cls := "java/util/BitSet", name := "set", desc := "(I)V" } : Jvm.MethodName) jdk_92_method_19_code (3 : Nat) (Option.none : Option Jvm.ClassFile.FieldType), Jvm.Cond.code ({ cls := "java/util/BitSet", name := "expandTo", desc := "(I)V" } : Jvm.MethodName) jdk_92_method_15_code (3 : Nat) (Option.none : Option Jvm.ClassFile.FieldType), Jvm.Cond.code ({ cls := "java/util/BitSet", name := "ensureCapacity", desc := "(I)V" } : Jvm.MethodName) jdk_92_method_14_code (3 : Nat) (Option.none : Option Jvm.ClassFile.FieldType), Jvm.Cond.code ({ cls := "java/util/BitSet", name := "checkInvariants", desc := "()V" } : Jvm.MethodName) jdk_92_method_2_code (1 : Nat) (Option.none : Option Jvm.ClassFile.FieldType), Jvm.Cond.code ({ cls := "com/example/vetd/vetd/Policy$Lines", name := "answer", desc := "([I)Lcom/example/vetd/vetd/Decision;" } : Jvm.MethodName) prog_20_method_2_code (7 : Nat) (Option.some (Jvm.ClassFile.FieldType.object "com/example/vetd/vetd/Decision")), Jvm.Cond.code ({ cls := "java/util/BitSet", name := "get", desc := "(I)Z" } : Jvm.MethodName) jdk_92_method_26_code (3 : Nat) (Option.some Jvm.ClassFile.FieldType.boolean), Jvm.Cond.code ({ cls := "com/example/vetd/vetd/LinesAnswerPinLaw", name := "has", desc := "(II)Z" } : Jvm.MethodName) method_3_code (2 : Nat) (Option.some Jvm.ClassFile.FieldType.boolean), Jvm.Cond.code ({ cls := "java/lang/Math", name := "max", desc := "(II)I" } : Jvm.MethodName) jdk_29_method_65_code (2 : Nat) (Option.some Jvm.ClassFile.FieldType.int), Jvm.Cond.code ({ cls := "java/util/Arrays", name := "copyOf", desc := "([JI)[J" } : Jvm.MethodName) jdk_65_method_124_code (3 : Nat) (Option.some (Jvm.ClassFile.FieldType.array Jvm.ClassFile.FieldType.long)), Jvm.Cond.code ({ cls := "java/lang/Math", name := "min", desc := "(II)I" } : Jvm.MethodName) jdk_29_method_69_code (2 : Nat) (Option.some Jvm.ClassFile.FieldType.int)]
set_option maxRecDepth 65536 in
theorem codes_eq : words1.filter isCode = codes1 := rfl
theorem w_codes : ∀ c ∈ words1.filter isCode, c.before args0 about1 = true := by
  rw [codes_eq]
  intro c hc
  simp only [codes1, List.mem_cons, List.not_mem_nil, or_false] at hc
  rcases hc with rfl | rfl | rfl | rfl | rfl | rfl | rfl | rfl | rfl | rfl | rfl | rfl | rfl | rfl | rfl | rfl
  · exact w_c0
  · exact w_c1
  · exact w_c2
  · exact w_c3
  · exact w_c4
  · exact w_c5
  · exact w_c6
  · exact w_c7
  · exact w_c8
  · exact w_c9
  · exact w_c10
  · exact w_c11
  · exact w_c12
  · exact w_c13
  · exact w_c14
  · exact w_c15
set_option maxRecDepth 65536 in
theorem w_t1 : (words1.take 24).all (fun c => isCode c || c.before args0 about1) = true := by decide +kernel
set_option maxRecDepth 65536 in
theorem w_t2 : ((words1.drop 24).take 24).all (fun c => isCode c || c.before args0 about1) = true := by decide +kernel
set_option maxRecDepth 65536 in
theorem w_t3 : (((words1.drop 24).drop 24).take 24).all (fun c => isCode c || c.before args0 about1) = true := by decide +kernel
set_option maxRecDepth 65536 in
theorem w_t4 : (((words1.drop 24).drop 24).drop 24).all (fun c => isCode c || c.before args0 about1) = true := by decide +kernel
theorem w_tables : (allAtoms (Jvm.Cond.code x code maxLocals ret :: tables_1)).before args0 about1 = true := by
  rw [allAtoms_all]
  show words1.all (fun c => c.before args0 about1) = true
  refine all_split ?_ w_codes
  rw [← List.take_append_drop 24 words1, List.all_append, w_t1, ← List.take_append_drop 24 (words1.drop 24), List.all_append, w_t2, ← List.take_append_drop 24 ((words1.drop 24).drop 24), List.all_append, w_t3, w_t4]
  rfl
set_option maxRecDepth 65536 in
theorem w_rest : rest_1_c.before args0 about1 = true := by decide +kernel
set_option maxRecDepth 65536 in
theorem w_case : (Jvm.Cond.and given_1 narrow_1).before args0 about1 = true := by decide +kernel
theorem w_applies : (headSpec (Jvm.Cond.code x code maxLocals ret :: tables_1) room_1).applies x e0.platform about1 = true :=
  (Spec.applies_iff w_frames).mpr ⟨w_running, w_runnable, w_alone, w_named, w_hears, w_ripe, w_room, w_tables⟩
theorem atStart : AtStart classFile x code maxLocals ret World_1 tables_1 room_1 Calls_1 rest_1 Pre_1 launch0 p0 e0 about1 theMethod args0 below0 :=
  ⟨lists_1, trivial, launch0.admits_env _ _ _, launch0.least_env, fairChoices_fair.cas, fairChoices_fair.clock, w_frames, w_args, w_heap, w_applies, trivial, w_rest, w_case⟩
end start1
theorem witness_1 : WitnessClaimed_1 := ⟨start1.p0, start1.e0, start1.about1, start1.theMethod, start1.args0, start1.below0, start1.atStart⟩
end Jvm.Pilot.@@N@@
