import JvmDerived
import JvmDerived.Pilot.@@N@@Statement
import JvmDerived.Pilot.@@N@@Code
set_option linter.unusedVariables false
set_option linter.unusedSimpArgs false
namespace Jvm.RoadKit
open Sem ClassFile Op Lib Jvm.Stand Jvm.Free Jvm.LawKit
section New
variable {p : Program} {l : Launch} {e : Env} {R : Room} {s : State} {m : MethodId} {args : Array Value} {below : List Frame} {meth : Method} {c : Code} {T : State} {locs : List Loc} {cells slots : Nat}
theorem retI (X : Stand p l e R s m args below meth c T locs cells slots) (hx : p.tables.exec = Jvm.exec) {pc : Nat} {Ls : Array Slot} {z : Int32} {rest : List Value} (hret : meth.sig.returnType = some .int) (hd : decode c.code pc = .ok (.ireturn, 1)) {fs : List Frame}
    (hl : ∀ (f : JFrame) (acts : List Action), f.method = m → f.locked = none → f.entered = [] → (doReturn e (T.setTop f) acts (some (.int z))).1 = T.setFrames fs) : Steps p.tables e below (T.setTop (mkF m pc Ls (.int z :: rest))) (T.setFrames fs) := by
  have hm' : T.vm.method? m = some meth := X.method'
  have hn : narrow .int (.int z) = .int z := rfl
  show Steps p.tables e below (T.setTop { method := m, pc := pc, locals := Ls, stack := _ :: rest, locked := none }) _
  jvm_step X.here [X.here.top, hx, hd, hm', hret, hn]
  first | (intro acts; rw [hl _ acts rfl rfl rfl]) | rw [hl _ _ rfl rfl rfl]
  exact Steps.refl _
end New
end Jvm.RoadKit
namespace Jvm.Pilot.@@N@@
open Jvm Jvm.ClassFile Sem Op Lib Jvm.Free Jvm.Stand Jvm.LawKit Jvm.RoadKit Bundle Jvm.Pilot.@@N@@.Jvm.D
theorem tk {L : List Jvm.Cond} {d : Jvm.Cond} (i : Nat) (h : L[i]? = some d) : d ∈ L := List.mem_of_getElem? h
/-! own small facts: what the case says of a pinned static's field -/
theorem own_fld {args : Array Value} {s : State} {t : Term} {C n d : String} {w : Addr} {k : Int32} (ht : t.eval args s none [] s = some (.ref w)) (h : (Cond.eq (.field t C n d) (.int k)).value args s none s [] = some true) : Fld s s.heap w C n d (.int k) := by
  obtain ⟨x, y, hx, hy, -, kin⟩ := cmp_v (Or.inl h)
  obtain rfl : Value.int k = y := Option.some.inj hy
  obtain ⟨z, rfl⟩ := kin
  have e : z = k := by simpa [Cond.value, hx, hy] using h
  subst e
  exact Fld.start ((fld_at ht).symm.trans hx)
theorem own_fldN {args : Array Value} {s : State} {t : Term} {C n d : String} {w : Addr} (ht : t.eval args s none [] s = some (.ref w)) (h : (Cond.eq (.field t C n d) .null).value args s none s [] = some true) : Fld s s.heap w C n d .null :=
  Fld.start ((fld_at ht).symm.trans (null_v h))
theorem own_nsroot {Z : State} {a0 : Array Value} {O K : String} {n : Nat} (w : (Cond.noSuperclass O).before a0 Z = true) (wk : (Cond.instantiable K n).before a0 Z = true) (hn : O ≠ K) : NS Z O K := by
  obtain ⟨c, k, h1, h2, h3, -, -⟩ := Cond.noSuperclass_spec w
  obtain ⟨t, -, g1, -⟩ := Cond.instantiable_spec wk
  have ne := ids_ne h1 g1 hn
  refine ⟨c, t, h1, g1, fun fuel => ?_⟩
  cases fuel with
  | zero => rfl
  | succ f => simp [Vm.isSubclassAux, ne, h2, h3]
theorem own_nsno {Z : State} {a0 : Array Value} {C S K : String} {n : Nat} (w : (Cond.superclass C S).before a0 Z = true) (wk : (Cond.instantiable K n).before a0 Z = true) (ns : NS Z C K) (hn : C ≠ K) : ∃ c t, Z.vm.findClass C = some c ∧ Z.vm.findClass K = some t ∧ Z.vm.assignable c t = false := by
  obtain ⟨c, t, h0, g0, n3⟩ := ns
  obtain ⟨p, k, kp, h1, h2, h3, h4, h5, -, h7⟩ := Cond.superclass_spec h0 w
  obtain ⟨t', k', g1, g2, g3, g4, -⟩ := Cond.instantiable_spec wk
  cases g0.symm.trans g1
  have ne := ids_ne h0 g0 hn
  have g5 : k'.isInterface = false := (Bool.or_eq_false_iff.mp g4).1
  refine ⟨c, t, h0, g0, ?_⟩
  show Z.vm.assignableAux (255 + 1) c t = false
  simp [Vm.assignableAux, ne, h2, g2, h5, g3, g5, Vm.isSubclass, n3]
theorem own_nar {v : Value} {C : String} (h : v.isRef = true) : narrow (.object C) v = v := by rcases ref_cases h with rfl | ⟨a, rfl⟩ <;> rfl
theorem own_fit {v : Value} {C : String} (h : v.isRef = true) : fits (.object C) v = true := by rcases ref_cases h with rfl | ⟨a, rfl⟩ <;> rfl
theorem own_refof {v : Value} (h : v.isRef = true) (n : ¬ v = .null) : ∃ a, v = .ref a := (ref_cases h).elim (fun q => absurd q n) id
theorem own_sint {args : Array Value} {s : State} {t : Term} {k : Int32} (h : (Cond.eq t (.int k)).value args s none s [] = some true) : t.eval args s none [] s = some (.int k) := by
  obtain ⟨x, y, hx, hy, -, kin⟩ := cmp_v (Or.inl h)
  obtain rfl : Value.int k = y := Option.some.inj hy
  obtain ⟨z, rfl⟩ := kin
  have e : z = k := by simpa [Cond.value, hx, hy] using h
  subst e; exact hx
theorem own_snot {args : Array Value} {s : State} {t : Term} {k z : Int32} (ht : t.eval args s none [] s = some (.int z)) (h : (Cond.not (Cond.eq t (.int k))).value args s none s [] = some true) : ¬ z = k := by
  have := not_v h
  intro e
  subst e
  simp [Cond.value, ht, Term.eval] at this
theorem own_seq {args : Array Value} {s : State} {t u : Term} {a b : Addr} (ht : t.eval args s none [] s = some (.ref a)) (hu : u.eval args s none [] s = some (.ref b)) (h : (Cond.eq t u).value args s none s [] = some true) : b = a := by
  have e : a = b := by simpa [Cond.value, ht, hu] using h
  exact e.symm
theorem own_len {args : Array Value} {s : State} {t : Term} {a : Addr} {c : Cell} {ty : FieldType} {n : Int32} (ht : t.eval args s none [] s = some (.ref a)) (A : Arr s s.heap a c ty) (h : (Cond.eq (.length t) (.int n)).value args s none s [] = some true) : c.slots.size < 2 ^ 31 ∧ c.slots.size.toInt32 = n := by
  have e0 := own_sint h
  have hfin := A.fin (Vm.Alike.refl _)
  by_cases hl : c.slots.size < 2 ^ 31
  · rw [len_f ht hfin hl] at e0
    exact ⟨hl, Value.int.inj (Option.some.inj e0)⟩
  · exfalso
    simp [Term.eval, ht, hfin, hl] at e0
theorem own_elem {args : Array Value} {s : State} {t u : Term} {a w : Addr} {c : Cell} {i : Int32} (ht : t.eval args s none [] s = some (.ref a)) (hc : s.heap[a]? = some c) (hu : u.eval args s none [] s = some (.ref w)) (h : (Cond.eq (.elem t (.int i)) u).value args s none s [] = some true) : c.slots[i.toNatClampNeg]? = some (.ref w) := by
  obtain ⟨x, y, hx, hy, k1, k2⟩ := cmp_v (Or.inl h)
  obtain rfl : Value.ref w = y := Option.some.inj (hu.symm.trans hy)
  have e := gotT (eq_R hx hu k2.2 rfl) h
  rw [e] at hx
  exact (elem_in hx ht (Term.int_eval i) hc).2
theorem own_ldcF {p : Program} {l : Launch} {e : Env} {R : Room} {s : State} {m : MethodId} {args : Array Value} {below : List Frame} {meth : Method} {c : Code} {T : State} {locs : List Loc} {cells slots : Nat}
    (X : Stand p l e R s m args below meth c T locs cells slots) (hx : p.tables.exec = Jvm.exec) {own : String} {index : Nat} {b : UInt32} (hown : s.vm.findClass own = some m.cls) (w : (Cond.constantFloat own index b).before args s = true) {g : JFrame} (hg : g.method = m) (hd : decode c.code g.pc = .ok (.ldc index, 2)) :
    ∀ target, Steps p.tables e below (T.setTop { g with pc := g.pc + 2, stack := .float b :: g.stack }) target → Steps p.tables e below (T.setTop g) target := by
  obtain ⟨k, cf, h1, h2, h3⟩ := Cond.constantFloat_spec hown w
  exact X.ldcFloat hx h1 h2 h3 hg hd
theorem own_iteR {c : Prop} [Decidable c] {a b : Value} (ha : a.isRef = true) (hb : b.isRef = true) : (if c then a else b).isRef = true := by split <;> assumption
theorem own_iteE {c P : Prop} [Decidable c] {a b : Value} {x : Addr} (h : (if c then a else b) = .ref x) (ha : a = .ref x → P) (hb : b = .ref x → P) : P := by
  split at h
  · exact ha h
  · exact hb h
theorem own_old {Z : State} {n0 : Nat} {h : Heap} (O : Old Z n0 h) : n0 ≤ h.size := O.1 ▸ O.2.1
theorem own_rand (x m : Int32) (n : Int) (h0 : 0 ≤ m.toInt) (h1 : m.toInt < n) : 0 ≤ (x &&& m).toInt ∧ (x &&& m).toInt < n := by
  have := c_and x m h0; omega
theorem own_rrem (x y : Int32) (n : Int) (h0 : 0 ≤ x.toInt) (hy : y.toInt = n) (hn : 0 < n) : 0 ≤ (x % y).toInt ∧ (x % y).toInt < n := by
  rw [(c_irem x y n hy).1 h0]; exact ⟨Int.emod_nonneg _ (by omega), Int.emod_lt_of_pos _ hn⟩
theorem own_rshr (x q : Int32) (k : Nat) (m : Int) {n : Int} (r : 0 ≤ x.toInt ∧ x.toInt < n) (hk : q.toBitVec.toNat % 32 = k) (hm : (n - 1) / ((2 ^ k : Nat) : Int) < m) : 0 ≤ (x >>> (q &&& 31)).toInt ∧ (x >>> (q &&& 31)).toInt < m := by
  rw [c_ishr x q k hk]
  have hp : (0 : Int) < ((2 ^ k : Nat) : Int) := by exact_mod_cast Nat.two_pow_pos k
  exact ⟨Int.ediv_nonneg r.1 (Int.le_of_lt hp), Int.lt_of_le_of_lt (Int.ediv_le_ediv hp (by omega)) hm⟩
theorem own_off {e c : Int32} {n : Int} (r : 0 ≤ e.toInt ∧ e.toInt < n) (h : decide (n ≤ c.toInt ∨ c.toInt < 0) = true) : ¬ e = c := fun z => by
  subst z
  have := of_decide_eq_true h
  omega
theorem own_below {e c : Int32} {n : Int} (r : 0 ≤ e.toInt ∧ e.toInt < n) (h : n ≤ c.toInt) : e < c := by rw [Int32.lt_iff_toInt_lt]; omega
theorem own_notbelow {e c : Int32} {n : Int} (r : 0 ≤ e.toInt ∧ e.toInt < n) (h : c.toInt ≤ 0) : ¬ e < c := by rw [Int32.lt_iff_toInt_lt]; omega
theorem own_notabove {e c : Int32} {n : Int} (r : 0 ≤ e.toInt ∧ e.toInt < n) (h : n - 1 ≤ c.toInt) : ¬ c < e := by rw [Int32.lt_iff_toInt_lt]; omega
theorem own_above {e c : Int32} {n : Int} (r : 0 ≤ e.toInt ∧ e.toInt < n) (h : c.toInt < 0) : c < e := by rw [Int32.lt_iff_toInt_lt]; omega
theorem own_lt {a b : Int32} {n : Int} (h : a < b) (e : b.toInt = n) : a.toInt < n := by rw [← e]; exact Int32.lt_iff_toInt_lt.mp h
theorem own_ne {a b : Int32} {n : Int} (h : ¬ a = b) (e : b.toInt = n) : a.toInt ≠ n := fun z => h (Int32.toInt_inj.mp (z.trans e.symm))
theorem own_eq {a b : Int32} {n : Int} (e : b.toInt = n) (h : a.toInt = n) : a = b := Int32.toInt_inj.mp (h.trans e.symm)
abbrev Sp (p : Program) (e : Env) (below : List Frame) (T : State) (f : JFrame) (t : State) : Prop := Steps p.tables e below (T.setTop f) t
abbrev Cm (p : Program) (e : Env) (below : List Frame) (E a : State) : Prop := ∀ t, Steps p.tables e below a t → Steps p.tables e below E t
abbrev lt1 (a0 : Int32) (a1 : Int32) (a2 : Int32) (a3 : Int32) (a4 : Int32) : Array Slot := #[.val (.int a0), .val (.int a1), .val (.int a2), .val (.int a3), .val (.int a4), .unset, .unset]
theorem d1_0 : decode prog_7_method_1_code 0 = .ok (.aload_n 0, 1) := by decide +kernel
abbrev lt2 (a0 : Addr) (a1 : Int32) : Array Slot := #[.val (.ref a0), .val (.int a1)]
theorem d1_1 : decode prog_7_method_1_code 1 = .ok (.iload_n 1, 1) := by decide +kernel
theorem d1_2 : decode prog_7_method_1_code 2 = .ok (.aconst_null, 1) := by decide +kernel
theorem d1_3 : decode prog_7_method_1_code 3 = .ok (.invokespecial 5, 3) := by decide +kernel
theorem d2_0 : decode prog_7_method_3_code 0 = .ok (.aload_n 0, 1) := by decide +kernel
abbrev lt3 (a0 : Addr) (a1 : Int32) : Array Slot := #[.val (.ref a0), .val (.int a1), .val .null, .unset, .unset, .unset, .unset]
theorem d2_1 : decode prog_7_method_3_code 1 = .ok (.invokespecial 17, 3) := by decide +kernel
theorem d2_4 : decode prog_7_method_3_code 4 = .ok (.aload_n 0, 1) := by decide +kernel
theorem d2_5 : decode prog_7_method_3_code 5 = .ok (.iload_n 1, 1) := by decide +kernel
theorem d2_6 : decode prog_7_method_3_code 6 = .ok (.putfield 22, 3) := by decide +kernel
theorem d2_9 : decode prog_7_method_3_code 9 = .ok (.aload_n 0, 1) := by decide +kernel
theorem d2_10 : decode prog_7_method_3_code 10 = .ok (.aload_n 2, 1) := by decide +kernel
theorem d2_11 : decode prog_7_method_3_code 11 = .ok (.ifnonnull 10, 3) := by decide +kernel
theorem d2_14 : decode prog_7_method_3_code 14 = .ok (.iconst 0, 1) := by decide +kernel
theorem d2_15 : decode prog_7_method_3_code 15 = .ok (.anewarray 26, 3) := by decide +kernel
theorem d2_18 : decode prog_7_method_3_code 18 = .ok (.goto 7, 3) := by decide +kernel
theorem d2_25 : decode prog_7_method_3_code 25 = .ok (.putfield 32, 3) := by decide +kernel
theorem d2_28 : decode prog_7_method_3_code 28 = .ok (.aload_n 0, 1) := by decide +kernel
theorem d2_29 : decode prog_7_method_3_code 29 = .ok (.iload_n 1, 1) := by decide +kernel
theorem d2_30 : decode prog_7_method_3_code 30 = .ok (.iload_n 1, 1) := by decide +kernel
theorem d2_31 : decode prog_7_method_3_code 31 = .ok (.multianewarray 35 2, 4) := by decide +kernel
theorem d2_35 : decode prog_7_method_3_code 35 = .ok (.putfield 37, 3) := by decide +kernel
theorem d2_38 : decode prog_7_method_3_code 38 = .ok (.aload_n 0, 1) := by decide +kernel
theorem d2_39 : decode prog_7_method_3_code 39 = .ok (.iload_n 1, 1) := by decide +kernel
theorem d2_40 : decode prog_7_method_3_code 40 = .ok (.newarray .int, 2) := by decide +kernel
theorem d2_42 : decode prog_7_method_3_code 42 = .ok (.putfield 40, 3) := by decide +kernel
theorem d2_45 : decode prog_7_method_3_code 45 = .ok (.aload_n 0, 1) := by decide +kernel
theorem d2_46 : decode prog_7_method_3_code 46 = .ok (.iload_n 1, 1) := by decide +kernel
theorem d2_47 : decode prog_7_method_3_code 47 = .ok (.newarray .int, 2) := by decide +kernel
theorem d2_49 : decode prog_7_method_3_code 49 = .ok (.putfield 43, 3) := by decide +kernel
theorem d2_52 : decode prog_7_method_3_code 52 = .ok (.aload_n 0, 1) := by decide +kernel
theorem d2_53 : decode prog_7_method_3_code 53 = .ok (.getfield 43, 3) := by decide +kernel
theorem d2_56 : decode prog_7_method_3_code 56 = .ok (.iload_n 1, 1) := by decide +kernel
theorem d2_57 : decode prog_7_method_3_code 57 = .ok (.iconst 1, 1) := by decide +kernel
theorem d2_58 : decode prog_7_method_3_code 58 = .ok (.isub, 1) := by decide +kernel
theorem d2_59 : decode prog_7_method_3_code 59 = .ok (.invokestatic 46, 3) := by decide +kernel
theorem d4_0 : decode jdk_65_method_103_code 0 = .ok (.iconst 0, 1) := by decide +kernel
abbrev lt4 (a0 : Addr) (a1 : Int32) : Array Slot := #[.val (.ref a0), .val (.int a1), .unset, .unset]
theorem d4_1 : decode jdk_65_method_103_code 1 = .ok (.istore_n 2, 1) := by decide +kernel
abbrev lt5 (a0 : Addr) (a1 : Int32) (a2 : Int32) : Array Slot := #[.val (.ref a0), .val (.int a1), .val (.int a2), .unset]
theorem d4_2 : decode jdk_65_method_103_code 2 = .ok (.aload_n 0, 1) := by decide +kernel
theorem d4_3 : decode jdk_65_method_103_code 3 = .ok (.arraylength, 1) := by decide +kernel
theorem d4_4 : decode jdk_65_method_103_code 4 = .ok (.istore_n 3, 1) := by decide +kernel
abbrev lt6 (a0 : Addr) (a1 : Int32) (a2 : Int32) (a3 : Int32) : Array Slot := #[.val (.ref a0), .val (.int a1), .val (.int a2), .val (.int a3)]
theorem d4_5 : decode jdk_65_method_103_code 5 = .ok (.iload_n 2, 1) := by decide +kernel
theorem d4_6 : decode jdk_65_method_103_code 6 = .ok (.iload_n 3, 1) := by decide +kernel
theorem d4_7 : decode jdk_65_method_103_code 7 = .ok (.if_icmp .ge 13, 3) := by decide +kernel
theorem d4_10 : decode jdk_65_method_103_code 10 = .ok (.aload_n 0, 1) := by decide +kernel
theorem d4_11 : decode jdk_65_method_103_code 11 = .ok (.iload_n 2, 1) := by decide +kernel
theorem d4_12 : decode jdk_65_method_103_code 12 = .ok (.iload_n 1, 1) := by decide +kernel
theorem d4_13 : decode jdk_65_method_103_code 13 = .ok (.iastore, 1) := by decide +kernel
theorem d4_14 : decode jdk_65_method_103_code 14 = .ok (.iinc 2 1, 3) := by decide +kernel
theorem d4_17 : decode jdk_65_method_103_code 17 = .ok (.goto (-12), 3) := by decide +kernel
theorem d4_20 : decode jdk_65_method_103_code 20 = .ok (.return_, 1) := by decide +kernel
abbrev Y6 : MethodName := (⟨"java/util/Arrays", "fill", "([II)V"⟩ : MethodName)
theorem pd_0 : parseMethodDescriptor "([II)V" = some ⟨[(.array .int), .int], none⟩ := by decide +kernel
theorem d2_62 : decode prog_7_method_3_code 62 = .ok (.iload_n 1, 1) := by decide +kernel
theorem d2_63 : decode prog_7_method_3_code 63 = .ok (.i2l, 1) := by decide +kernel
theorem d2_64 : decode prog_7_method_3_code 64 = .ok (.iload_n 1, 1) := by decide +kernel
theorem d2_65 : decode prog_7_method_3_code 65 = .ok (.iconst 1, 1) := by decide +kernel
theorem d2_66 : decode prog_7_method_3_code 66 = .ok (.isub, 1) := by decide +kernel
theorem d2_67 : decode prog_7_method_3_code 67 = .ok (.i2l, 1) := by decide +kernel
theorem d2_68 : decode prog_7_method_3_code 68 = .ok (.lmul, 1) := by decide +kernel
theorem d2_69 : decode prog_7_method_3_code 69 = .ok (.lstore_n 3, 1) := by decide +kernel
abbrev lt7 (a0 : Addr) (a1 : Int32) (a3 : Int64) : Array Slot := #[.val (.ref a0), .val (.int a1), .val .null, .val (.long a3), .second, .unset, .unset]
theorem d2_70 : decode prog_7_method_3_code 70 = .ok (.aload_n 2, 1) := by decide +kernel
theorem d2_71 : decode prog_7_method_3_code 71 = .ok (.ifnull 97, 3) := by decide +kernel
theorem d2_168 : decode prog_7_method_3_code 168 = .ok (.aload_n 0, 1) := by decide +kernel
theorem d2_169 : decode prog_7_method_3_code 169 = .ok (.lload_n 3, 1) := by decide +kernel
theorem d2_170 : decode prog_7_method_3_code 170 = .ok (.ldc2_w 58, 3) := by decide +kernel
theorem d2_173 : decode prog_7_method_3_code 173 = .ok (.iload_n 1, 1) := by decide +kernel
theorem d2_174 : decode prog_7_method_3_code 174 = .ok (.i2l, 1) := by decide +kernel
theorem d2_175 : decode prog_7_method_3_code 175 = .ok (.lmul, 1) := by decide +kernel
theorem d2_176 : decode prog_7_method_3_code 176 = .ok (.ladd, 1) := by decide +kernel
theorem d2_177 : decode prog_7_method_3_code 177 = .ok (.invokestatic 60, 3) := by decide +kernel
theorem d5_0 : decode jdk_29_method_43_code 0 = .ok (.lload_n 0, 1) := by decide +kernel
abbrev lt8 (a0 : Int64) : Array Slot := #[.val (.long a0), .second]
theorem d5_1 : decode jdk_29_method_43_code 1 = .ok (.l2i, 1) := by decide +kernel
theorem d5_2 : decode jdk_29_method_43_code 2 = .ok (.i2l, 1) := by decide +kernel
theorem d5_3 : decode jdk_29_method_43_code 3 = .ok (.lload_n 0, 1) := by decide +kernel
theorem d5_4 : decode jdk_29_method_43_code 4 = .ok (.lcmp, 1) := by decide +kernel
theorem d5_5 : decode jdk_29_method_43_code 5 = .ok (.ifCond .eq 13, 3) := by decide +kernel
theorem d5_18 : decode jdk_29_method_43_code 18 = .ok (.lload_n 0, 1) := by decide +kernel
theorem d5_19 : decode jdk_29_method_43_code 19 = .ok (.l2i, 1) := by decide +kernel
theorem d5_20 : decode jdk_29_method_43_code 20 = .ok (.ireturn, 1) := by decide +kernel
abbrev Y9 : MethodName := (⟨"java/lang/Math", "toIntExact", "(J)I"⟩ : MethodName)
theorem pd_1 : parseMethodDescriptor "(J)I" = some ⟨[.long], some .int⟩ := by decide +kernel
theorem d2_180 : decode prog_7_method_3_code 180 = .ok (.newarray .int, 2) := by decide +kernel
theorem d2_182 : decode prog_7_method_3_code 182 = .ok (.putfield 66, 3) := by decide +kernel
theorem d2_185 : decode prog_7_method_3_code 185 = .ok (.aload_n 0, 1) := by decide +kernel
theorem d2_186 : decode prog_7_method_3_code 186 = .ok (.iload_n 1, 1) := by decide +kernel
theorem d2_187 : decode prog_7_method_3_code 187 = .ok (.newarray .int, 2) := by decide +kernel
theorem d2_189 : decode prog_7_method_3_code 189 = .ok (.putfield 69, 3) := by decide +kernel
theorem d2_192 : decode prog_7_method_3_code 192 = .ok (.aload_n 0, 1) := by decide +kernel
theorem d2_193 : decode prog_7_method_3_code 193 = .ok (.iload_n 1, 1) := by decide +kernel
theorem d2_194 : decode prog_7_method_3_code 194 = .ok (.newarray .int, 2) := by decide +kernel
theorem d2_196 : decode prog_7_method_3_code 196 = .ok (.putfield 72, 3) := by decide +kernel
theorem d2_199 : decode prog_7_method_3_code 199 = .ok (.iconst 0, 1) := by decide +kernel
theorem d2_200 : decode prog_7_method_3_code 200 = .ok (.istore 5, 2) := by decide +kernel
abbrev lt9 (a0 : Addr) (a1 : Int32) (a3 : Int64) (a5 : Int32) : Array Slot := #[.val (.ref a0), .val (.int a1), .val .null, .val (.long a3), .second, .val (.int a5), .unset]
theorem d2_202 : decode prog_7_method_3_code 202 = .ok (.iload 5, 2) := by decide +kernel
theorem d2_204 : decode prog_7_method_3_code 204 = .ok (.iload_n 1, 1) := by decide +kernel
theorem d2_205 : decode prog_7_method_3_code 205 = .ok (.if_icmp .ge 26, 3) := by decide +kernel
theorem d2_208 : decode prog_7_method_3_code 208 = .ok (.aload_n 0, 1) := by decide +kernel
theorem d2_209 : decode prog_7_method_3_code 209 = .ok (.getfield 69, 3) := by decide +kernel
theorem d2_212 : decode prog_7_method_3_code 212 = .ok (.iload 5, 2) := by decide +kernel
theorem d2_214 : decode prog_7_method_3_code 214 = .ok (.iload 5, 2) := by decide +kernel
theorem d2_216 : decode prog_7_method_3_code 216 = .ok (.iastore, 1) := by decide +kernel
theorem d2_217 : decode prog_7_method_3_code 217 = .ok (.aload_n 0, 1) := by decide +kernel
theorem d2_218 : decode prog_7_method_3_code 218 = .ok (.getfield 72, 3) := by decide +kernel
theorem d2_221 : decode prog_7_method_3_code 221 = .ok (.iload 5, 2) := by decide +kernel
theorem d2_223 : decode prog_7_method_3_code 223 = .ok (.iconst 1, 1) := by decide +kernel
theorem d2_224 : decode prog_7_method_3_code 224 = .ok (.iastore, 1) := by decide +kernel
theorem d2_225 : decode prog_7_method_3_code 225 = .ok (.iinc 5 1, 3) := by decide +kernel
theorem d2_228 : decode prog_7_method_3_code 228 = .ok (.goto (-26), 3) := by decide +kernel
theorem d2_231 : decode prog_7_method_3_code 231 = .ok (.aload_n 0, 1) := by decide +kernel
theorem d2_232 : decode prog_7_method_3_code 232 = .ok (.iload_n 1, 1) := by decide +kernel
theorem d2_233 : decode prog_7_method_3_code 233 = .ok (.newarray .int, 2) := by decide +kernel
theorem d2_235 : decode prog_7_method_3_code 235 = .ok (.putfield 75, 3) := by decide +kernel
theorem d2_238 : decode prog_7_method_3_code 238 = .ok (.aload_n 0, 1) := by decide +kernel
theorem d2_239 : decode prog_7_method_3_code 239 = .ok (.iload_n 1, 1) := by decide +kernel
theorem d2_240 : decode prog_7_method_3_code 240 = .ok (.newarray .boolean, 2) := by decide +kernel
theorem d2_242 : decode prog_7_method_3_code 242 = .ok (.putfield 78, 3) := by decide +kernel
theorem d2_245 : decode prog_7_method_3_code 245 = .ok (.aload_n 0, 1) := by decide +kernel
theorem d2_246 : decode prog_7_method_3_code 246 = .ok (.iload_n 1, 1) := by decide +kernel
theorem d2_247 : decode prog_7_method_3_code 247 = .ok (.iconst 1, 1) := by decide +kernel
theorem d2_248 : decode prog_7_method_3_code 248 = .ok (.iadd, 1) := by decide +kernel
theorem d2_249 : decode prog_7_method_3_code 249 = .ok (.newarray .int, 2) := by decide +kernel
theorem d2_251 : decode prog_7_method_3_code 251 = .ok (.putfield 82, 3) := by decide +kernel
theorem d2_254 : decode prog_7_method_3_code 254 = .ok (.aload_n 0, 1) := by decide +kernel
theorem d2_255 : decode prog_7_method_3_code 255 = .ok (.lload_n 3, 1) := by decide +kernel
theorem d2_256 : decode prog_7_method_3_code 256 = .ok (.invokestatic 60, 3) := by decide +kernel
theorem d2_259 : decode prog_7_method_3_code 259 = .ok (.newarray .int, 2) := by decide +kernel
theorem d2_261 : decode prog_7_method_3_code 261 = .ok (.putfield 85, 3) := by decide +kernel
theorem d2_264 : decode prog_7_method_3_code 264 = .ok (.return_, 1) := by decide +kernel
abbrev Y11 : MethodName := (⟨"com/example/onetree/onetree/EdgeStates", "<init>", "(ILcom/example/onetree/onetree/Instance;)V"⟩ : MethodName)
theorem pd_2 : parseMethodDescriptor "(ILcom/example/onetree/onetree/Instance;)V" = some ⟨[.int, (.object "com/example/onetree/onetree/Instance")], none⟩ := by decide +kernel
theorem d1_6 : decode prog_7_method_1_code 6 = .ok (.return_, 1) := by decide +kernel
abbrev Y12 : MethodName := (⟨"com/example/onetree/onetree/EdgeStates", "<init>", "(I)V"⟩ : MethodName)
theorem pd_3 : parseMethodDescriptor "(I)V" = some ⟨[.int], none⟩ := by decide +kernel
abbrev lt10 (a0 : Int32) (a1 : Int32) (a2 : Int32) (a3 : Int32) (a4 : Int32) (a5 : Addr) : Array Slot := #[.val (.int a0), .val (.int a1), .val (.int a2), .val (.int a3), .val (.int a4), .val (.ref a5), .unset]
theorem d6_0 : decode method_3_code 0 = .ok (.iload_n 2, 1) := by decide +kernel
abbrev lt11 (a0 : Addr) (a1 : Int32) (a2 : Int32) (a3 : Int32) : Array Slot := #[.val (.ref a0), .val (.int a1), .val (.int a2), .val (.int a3), .unset, .unset]
theorem d6_1 : decode method_3_code 1 = .ok (.iconst 3, 1) := by decide +kernel
theorem d6_2 : decode method_3_code 2 = .ok (.iand, 1) := by decide +kernel
theorem d6_3 : decode method_3_code 3 = .ok (.istore 4, 2) := by decide +kernel
abbrev lt12 (a0 : Addr) (a1 : Int32) (a2 : Int32) (a3 : Int32) (a4 : Int32) : Array Slot := #[.val (.ref a0), .val (.int a1), .val (.int a2), .val (.int a3), .val (.int a4), .unset]
theorem d6_5 : decode method_3_code 5 = .ok (.iload 4, 2) := by decide +kernel
theorem d6_7 : decode method_3_code 7 = .ok (.iconst 1, 1) := by decide +kernel
theorem d6_8 : decode method_3_code 8 = .ok (.iadd, 1) := by decide +kernel
theorem d6_9 : decode method_3_code 9 = .ok (.iload_n 3, 1) := by decide +kernel
theorem d6_10 : decode method_3_code 10 = .ok (.ldc 39, 2) := by decide +kernel
theorem d6_12 : decode method_3_code 12 = .ok (.iand, 1) := by decide +kernel
theorem d6_13 : decode method_3_code 13 = .ok (.iconst 3, 1) := by decide +kernel
theorem d6_14 : decode method_3_code 14 = .ok (.irem, 1) := by decide +kernel
theorem d6_15 : decode method_3_code 15 = .ok (.iadd, 1) := by decide +kernel
theorem d6_16 : decode method_3_code 16 = .ok (.iconst 3, 1) := by decide +kernel
theorem d6_17 : decode method_3_code 17 = .ok (.iand, 1) := by decide +kernel
theorem d6_18 : decode method_3_code 18 = .ok (.istore 5, 2) := by decide +kernel
abbrev lt13 (a0 : Addr) (a1 : Int32) (a2 : Int32) (a3 : Int32) (a4 : Int32) (a5 : Int32) : Array Slot := #[.val (.ref a0), .val (.int a1), .val (.int a2), .val (.int a3), .val (.int a4), .val (.int a5)]
theorem d6_20 : decode method_3_code 20 = .ok (.iload_n 1, 1) := by decide +kernel
theorem d6_21 : decode method_3_code 21 = .ok (.iconst 1, 1) := by decide +kernel
theorem d6_22 : decode method_3_code 22 = .ok (.if_icmp .eq 8, 3) := by decide +kernel
theorem d6_30 : decode method_3_code 30 = .ok (.aload_n 0, 1) := by decide +kernel
theorem d6_31 : decode method_3_code 31 = .ok (.iload 4, 2) := by decide +kernel
theorem d6_33 : decode method_3_code 33 = .ok (.iload 5, 2) := by decide +kernel
theorem d6_35 : decode method_3_code 35 = .ok (.invokevirtual 40, 3) := by decide +kernel
theorem d15_0 : decode prog_7_method_13_code 0 = .ok (.aload_n 0, 1) := by decide +kernel
abbrev lt14 (a0 : Addr) (a1 : Int32) (a2 : Int32) : Array Slot := #[.val (.ref a0), .val (.int a1), .val (.int a2)]
theorem d15_1 : decode prog_7_method_13_code 1 = .ok (.iload_n 1, 1) := by decide +kernel
theorem d15_2 : decode prog_7_method_13_code 2 = .ok (.iload_n 2, 1) := by decide +kernel
theorem d15_3 : decode prog_7_method_13_code 3 = .ok (.invokevirtual 112, 3) := by decide +kernel
theorem d16_0 : decode prog_7_method_21_code 0 = .ok (.aload_n 0, 1) := by decide +kernel
theorem d16_1 : decode prog_7_method_21_code 1 = .ok (.getfield 37, 3) := by decide +kernel
theorem d16_4 : decode prog_7_method_21_code 4 = .ok (.iload_n 1, 1) := by decide +kernel
theorem d16_5 : decode prog_7_method_21_code 5 = .ok (.aaload, 1) := by decide +kernel
theorem d16_6 : decode prog_7_method_21_code 6 = .ok (.iload_n 2, 1) := by decide +kernel
theorem d16_7 : decode prog_7_method_21_code 7 = .ok (.baload, 1) := by decide +kernel
theorem d16_8 : decode prog_7_method_21_code 8 = .ok (.istore_n 3, 1) := by decide +kernel
theorem d16_9 : decode prog_7_method_21_code 9 = .ok (.iload_n 3, 1) := by decide +kernel
theorem d16_10 : decode prog_7_method_21_code 10 = .ok (.ifCond .eq 14, 3) := by decide +kernel
theorem d16_24 : decode prog_7_method_21_code 24 = .ok (.aload_n 0, 1) := by decide +kernel
theorem d16_25 : decode prog_7_method_21_code 25 = .ok (.iload_n 1, 1) := by decide +kernel
theorem d16_26 : decode prog_7_method_21_code 26 = .ok (.iload_n 2, 1) := by decide +kernel
theorem d16_27 : decode prog_7_method_21_code 27 = .ok (.iconst 2, 1) := by decide +kernel
theorem d16_28 : decode prog_7_method_21_code 28 = .ok (.invokevirtual 122, 3) := by decide +kernel
theorem d17_0 : decode prog_7_method_25_code 0 = .ok (.aload_n 0, 1) := by decide +kernel
theorem d17_1 : decode prog_7_method_25_code 1 = .ok (.iconst 0, 1) := by decide +kernel
theorem d17_2 : decode prog_7_method_25_code 2 = .ok (.putfield 115, 3) := by decide +kernel
theorem d17_5 : decode prog_7_method_25_code 5 = .ok (.aload_n 0, 1) := by decide +kernel
theorem d17_6 : decode prog_7_method_25_code 6 = .ok (.getfield 66, 3) := by decide +kernel
theorem d17_9 : decode prog_7_method_25_code 9 = .ok (.aload_n 0, 1) := by decide +kernel
theorem d17_10 : decode prog_7_method_25_code 10 = .ok (.dup, 1) := by decide +kernel
theorem d17_11 : decode prog_7_method_25_code 11 = .ok (.getfield 119, 3) := by decide +kernel
theorem d17_14 : decode prog_7_method_25_code 14 = .ok (.dup_x1, 1) := by decide +kernel
theorem d17_15 : decode prog_7_method_25_code 15 = .ok (.iconst 1, 1) := by decide +kernel
theorem d17_16 : decode prog_7_method_25_code 16 = .ok (.iadd, 1) := by decide +kernel
theorem d17_17 : decode prog_7_method_25_code 17 = .ok (.putfield 119, 3) := by decide +kernel
theorem d17_20 : decode prog_7_method_25_code 20 = .ok (.iload_n 1, 1) := by decide +kernel
theorem d17_21 : decode prog_7_method_25_code 21 = .ok (.iastore, 1) := by decide +kernel
theorem d17_22 : decode prog_7_method_25_code 22 = .ok (.aload_n 0, 1) := by decide +kernel
theorem d17_23 : decode prog_7_method_25_code 23 = .ok (.getfield 66, 3) := by decide +kernel
theorem d17_26 : decode prog_7_method_25_code 26 = .ok (.aload_n 0, 1) := by decide +kernel
theorem d17_27 : decode prog_7_method_25_code 27 = .ok (.dup, 1) := by decide +kernel
theorem d17_28 : decode prog_7_method_25_code 28 = .ok (.getfield 119, 3) := by decide +kernel
theorem d17_31 : decode prog_7_method_25_code 31 = .ok (.dup_x1, 1) := by decide +kernel
theorem d17_32 : decode prog_7_method_25_code 32 = .ok (.iconst 1, 1) := by decide +kernel
theorem d17_33 : decode prog_7_method_25_code 33 = .ok (.iadd, 1) := by decide +kernel
theorem d17_34 : decode prog_7_method_25_code 34 = .ok (.putfield 119, 3) := by decide +kernel
theorem d17_37 : decode prog_7_method_25_code 37 = .ok (.iload_n 2, 1) := by decide +kernel
theorem d17_38 : decode prog_7_method_25_code 38 = .ok (.iastore, 1) := by decide +kernel
theorem d17_39 : decode prog_7_method_25_code 39 = .ok (.aload_n 0, 1) := by decide +kernel
theorem d17_40 : decode prog_7_method_25_code 40 = .ok (.getfield 37, 3) := by decide +kernel
theorem d17_43 : decode prog_7_method_25_code 43 = .ok (.iload_n 1, 1) := by decide +kernel
theorem d17_44 : decode prog_7_method_25_code 44 = .ok (.aaload, 1) := by decide +kernel
theorem d17_45 : decode prog_7_method_25_code 45 = .ok (.iload_n 2, 1) := by decide +kernel
theorem d17_46 : decode prog_7_method_25_code 46 = .ok (.iload_n 3, 1) := by decide +kernel
theorem d17_47 : decode prog_7_method_25_code 47 = .ok (.bastore, 1) := by decide +kernel
theorem d17_48 : decode prog_7_method_25_code 48 = .ok (.aload_n 0, 1) := by decide +kernel
theorem d17_49 : decode prog_7_method_25_code 49 = .ok (.getfield 37, 3) := by decide +kernel
theorem d17_52 : decode prog_7_method_25_code 52 = .ok (.iload_n 2, 1) := by decide +kernel
theorem d17_53 : decode prog_7_method_25_code 53 = .ok (.aaload, 1) := by decide +kernel
theorem d17_54 : decode prog_7_method_25_code 54 = .ok (.iload_n 1, 1) := by decide +kernel
theorem d17_55 : decode prog_7_method_25_code 55 = .ok (.iload_n 3, 1) := by decide +kernel
theorem d17_56 : decode prog_7_method_25_code 56 = .ok (.bastore, 1) := by decide +kernel
theorem d17_57 : decode prog_7_method_25_code 57 = .ok (.return_, 1) := by decide +kernel
abbrev Y18 : MethodName := (⟨"com/example/onetree/onetree/EdgeStates", "setState", "(IIB)V"⟩ : MethodName)
theorem pd_4 : parseMethodDescriptor "(IIB)V" = some ⟨[.int, .int, .byte], none⟩ := by decide +kernel
theorem d16_31 : decode prog_7_method_21_code 31 = .ok (.aload_n 0, 1) := by decide +kernel
theorem d16_32 : decode prog_7_method_21_code 32 = .ok (.getfield 43, 3) := by decide +kernel
theorem d16_35 : decode prog_7_method_21_code 35 = .ok (.iload_n 1, 1) := by decide +kernel
theorem d16_36 : decode prog_7_method_21_code 36 = .ok (.dup2, 1) := by decide +kernel
theorem d16_37 : decode prog_7_method_21_code 37 = .ok (.iaload, 1) := by decide +kernel
theorem d16_38 : decode prog_7_method_21_code 38 = .ok (.iconst 1, 1) := by decide +kernel
theorem d16_39 : decode prog_7_method_21_code 39 = .ok (.isub, 1) := by decide +kernel
theorem d16_40 : decode prog_7_method_21_code 40 = .ok (.iastore, 1) := by decide +kernel
theorem d16_41 : decode prog_7_method_21_code 41 = .ok (.aload_n 0, 1) := by decide +kernel
theorem d16_42 : decode prog_7_method_21_code 42 = .ok (.getfield 43, 3) := by decide +kernel
theorem d16_45 : decode prog_7_method_21_code 45 = .ok (.iload_n 2, 1) := by decide +kernel
theorem d16_46 : decode prog_7_method_21_code 46 = .ok (.dup2, 1) := by decide +kernel
theorem d16_47 : decode prog_7_method_21_code 47 = .ok (.iaload, 1) := by decide +kernel
theorem d16_48 : decode prog_7_method_21_code 48 = .ok (.iconst 1, 1) := by decide +kernel
theorem d16_49 : decode prog_7_method_21_code 49 = .ok (.isub, 1) := by decide +kernel
theorem d16_50 : decode prog_7_method_21_code 50 = .ok (.iastore, 1) := by decide +kernel
theorem d16_51 : decode prog_7_method_21_code 51 = .ok (.aload_n 0, 1) := by decide +kernel
theorem d16_52 : decode prog_7_method_21_code 52 = .ok (.iload_n 1, 1) := by decide +kernel
theorem d16_53 : decode prog_7_method_21_code 53 = .ok (.invokevirtual 104, 3) := by decide +kernel
theorem d18_0 : decode prog_7_method_27_code 0 = .ok (.aload_n 0, 1) := by decide +kernel
theorem d18_1 : decode prog_7_method_27_code 1 = .ok (.getfield 78, 3) := by decide +kernel
theorem d18_4 : decode prog_7_method_27_code 4 = .ok (.iload_n 1, 1) := by decide +kernel
theorem d18_5 : decode prog_7_method_27_code 5 = .ok (.baload, 1) := by decide +kernel
theorem d18_6 : decode prog_7_method_27_code 6 = .ok (.ifCond .ne 40, 3) := by decide +kernel
theorem d18_9 : decode prog_7_method_27_code 9 = .ok (.aload_n 0, 1) := by decide +kernel
theorem d18_10 : decode prog_7_method_27_code 10 = .ok (.getfield 78, 3) := by decide +kernel
theorem d18_13 : decode prog_7_method_27_code 13 = .ok (.iload_n 1, 1) := by decide +kernel
theorem d18_14 : decode prog_7_method_27_code 14 = .ok (.iconst 1, 1) := by decide +kernel
theorem d18_15 : decode prog_7_method_27_code 15 = .ok (.bastore, 1) := by decide +kernel
theorem d18_16 : decode prog_7_method_27_code 16 = .ok (.aload_n 0, 1) := by decide +kernel
theorem d18_17 : decode prog_7_method_27_code 17 = .ok (.getfield 75, 3) := by decide +kernel
theorem d18_20 : decode prog_7_method_27_code 20 = .ok (.aload_n 0, 1) := by decide +kernel
theorem d18_21 : decode prog_7_method_27_code 21 = .ok (.getfield 133, 3) := by decide +kernel
theorem d18_24 : decode prog_7_method_27_code 24 = .ok (.aload_n 0, 1) := by decide +kernel
theorem d18_25 : decode prog_7_method_27_code 25 = .ok (.getfield 130, 3) := by decide +kernel
theorem d18_28 : decode prog_7_method_27_code 28 = .ok (.iadd, 1) := by decide +kernel
theorem d18_29 : decode prog_7_method_27_code 29 = .ok (.aload_n 0, 1) := by decide +kernel
theorem d18_30 : decode prog_7_method_27_code 30 = .ok (.getfield 22, 3) := by decide +kernel
theorem d18_33 : decode prog_7_method_27_code 33 = .ok (.irem, 1) := by decide +kernel
theorem d18_34 : decode prog_7_method_27_code 34 = .ok (.iload_n 1, 1) := by decide +kernel
theorem d18_35 : decode prog_7_method_27_code 35 = .ok (.iastore, 1) := by decide +kernel
theorem d18_36 : decode prog_7_method_27_code 36 = .ok (.aload_n 0, 1) := by decide +kernel
theorem d18_37 : decode prog_7_method_27_code 37 = .ok (.dup, 1) := by decide +kernel
theorem d18_38 : decode prog_7_method_27_code 38 = .ok (.getfield 130, 3) := by decide +kernel
theorem d18_41 : decode prog_7_method_27_code 41 = .ok (.iconst 1, 1) := by decide +kernel
theorem d18_42 : decode prog_7_method_27_code 42 = .ok (.iadd, 1) := by decide +kernel
theorem d18_43 : decode prog_7_method_27_code 43 = .ok (.putfield 130, 3) := by decide +kernel
theorem d18_46 : decode prog_7_method_27_code 46 = .ok (.return_, 1) := by decide +kernel
abbrev Y19 : MethodName := (⟨"com/example/onetree/onetree/EdgeStates", "enqueue", "(I)V"⟩ : MethodName)
theorem d16_56 : decode prog_7_method_21_code 56 = .ok (.aload_n 0, 1) := by decide +kernel
theorem d16_57 : decode prog_7_method_21_code 57 = .ok (.iload_n 2, 1) := by decide +kernel
theorem d16_58 : decode prog_7_method_21_code 58 = .ok (.invokevirtual 104, 3) := by decide +kernel
theorem d16_61 : decode prog_7_method_21_code 61 = .ok (.iconst 1, 1) := by decide +kernel
theorem d16_62 : decode prog_7_method_21_code 62 = .ok (.ireturn, 1) := by decide +kernel
theorem d16_13 : decode prog_7_method_21_code 13 = .ok (.iload_n 3, 1) := by decide +kernel
theorem d16_14 : decode prog_7_method_21_code 14 = .ok (.iconst 2, 1) := by decide +kernel
theorem d16_15 : decode prog_7_method_21_code 15 = .ok (.if_icmp .ne 7, 3) := by decide +kernel
theorem d16_18 : decode prog_7_method_21_code 18 = .ok (.iconst 1, 1) := by decide +kernel
theorem d16_19 : decode prog_7_method_21_code 19 = .ok (.goto 4, 3) := by decide +kernel
theorem d16_23 : decode prog_7_method_21_code 23 = .ok (.ireturn, 1) := by decide +kernel
theorem d16_22 : decode prog_7_method_21_code 22 = .ok (.iconst 0, 1) := by decide +kernel
abbrev Y20 : MethodName := (⟨"com/example/onetree/onetree/EdgeStates", "setRemoved", "(II)Z"⟩ : MethodName)
theorem pd_5 : parseMethodDescriptor "(II)Z" = some ⟨[.int, .int], some .boolean⟩ := by decide +kernel
theorem d15_6 : decode prog_7_method_13_code 6 = .ok (.ifCond .eq 14, 3) := by decide +kernel
theorem d15_20 : decode prog_7_method_13_code 20 = .ok (.iconst 0, 1) := by decide +kernel
theorem d15_21 : decode prog_7_method_13_code 21 = .ok (.ireturn, 1) := by decide +kernel
theorem d15_9 : decode prog_7_method_13_code 9 = .ok (.aload_n 0, 1) := by decide +kernel
theorem d15_10 : decode prog_7_method_13_code 10 = .ok (.invokevirtual 108, 3) := by decide +kernel
abbrev lt15 (a0 : Addr) (a1 : Slot) : Array Slot := #[.val (.ref a0), a1]
theorem d19_0 : decode prog_7_method_22_code 0 = .ok (.aload_n 0, 1) := by decide +kernel
theorem d19_1 : decode prog_7_method_22_code 1 = .ok (.getfield 130, 3) := by decide +kernel
theorem d19_4 : decode prog_7_method_22_code 4 = .ok (.ifCond .le 62, 3) := by decide +kernel
theorem d19_7 : decode prog_7_method_22_code 7 = .ok (.aload_n 0, 1) := by decide +kernel
theorem d19_8 : decode prog_7_method_22_code 8 = .ok (.getfield 75, 3) := by decide +kernel
theorem d19_11 : decode prog_7_method_22_code 11 = .ok (.aload_n 0, 1) := by decide +kernel
theorem d19_12 : decode prog_7_method_22_code 12 = .ok (.getfield 133, 3) := by decide +kernel
theorem d19_15 : decode prog_7_method_22_code 15 = .ok (.iaload, 1) := by decide +kernel
theorem d19_16 : decode prog_7_method_22_code 16 = .ok (.istore_n 1, 1) := by decide +kernel
theorem d19_17 : decode prog_7_method_22_code 17 = .ok (.aload_n 0, 1) := by decide +kernel
theorem d19_18 : decode prog_7_method_22_code 18 = .ok (.aload_n 0, 1) := by decide +kernel
theorem d19_19 : decode prog_7_method_22_code 19 = .ok (.getfield 133, 3) := by decide +kernel
theorem d19_22 : decode prog_7_method_22_code 22 = .ok (.iconst 1, 1) := by decide +kernel
theorem d19_23 : decode prog_7_method_22_code 23 = .ok (.iadd, 1) := by decide +kernel
theorem d19_24 : decode prog_7_method_22_code 24 = .ok (.aload_n 0, 1) := by decide +kernel
theorem d19_25 : decode prog_7_method_22_code 25 = .ok (.getfield 22, 3) := by decide +kernel
theorem d19_28 : decode prog_7_method_22_code 28 = .ok (.irem, 1) := by decide +kernel
theorem d19_29 : decode prog_7_method_22_code 29 = .ok (.putfield 133, 3) := by decide +kernel
theorem d19_32 : decode prog_7_method_22_code 32 = .ok (.aload_n 0, 1) := by decide +kernel
theorem d19_33 : decode prog_7_method_22_code 33 = .ok (.dup, 1) := by decide +kernel
theorem d19_34 : decode prog_7_method_22_code 34 = .ok (.getfield 130, 3) := by decide +kernel
theorem d19_37 : decode prog_7_method_22_code 37 = .ok (.iconst 1, 1) := by decide +kernel
theorem d19_38 : decode prog_7_method_22_code 38 = .ok (.isub, 1) := by decide +kernel
theorem d19_39 : decode prog_7_method_22_code 39 = .ok (.putfield 130, 3) := by decide +kernel
theorem d19_42 : decode prog_7_method_22_code 42 = .ok (.aload_n 0, 1) := by decide +kernel
theorem d19_43 : decode prog_7_method_22_code 43 = .ok (.getfield 78, 3) := by decide +kernel
theorem d19_46 : decode prog_7_method_22_code 46 = .ok (.iload_n 1, 1) := by decide +kernel
theorem d19_47 : decode prog_7_method_22_code 47 = .ok (.iconst 0, 1) := by decide +kernel
theorem d19_48 : decode prog_7_method_22_code 48 = .ok (.bastore, 1) := by decide +kernel
theorem d19_49 : decode prog_7_method_22_code 49 = .ok (.aload_n 0, 1) := by decide +kernel
theorem d19_50 : decode prog_7_method_22_code 50 = .ok (.iload_n 1, 1) := by decide +kernel
theorem d19_51 : decode prog_7_method_22_code 51 = .ok (.invokevirtual 136, 3) := by decide +kernel
theorem d20_0 : decode prog_7_method_24_code 0 = .ok (.aload_n 0, 1) := by decide +kernel
abbrev lt16 (a0 : Addr) (a1 : Int32) : Array Slot := #[.val (.ref a0), .val (.int a1), .unset, .unset, .unset]
theorem d20_1 : decode prog_7_method_24_code 1 = .ok (.getfield 43, 3) := by decide +kernel
theorem d20_4 : decode prog_7_method_24_code 4 = .ok (.iload_n 1, 1) := by decide +kernel
theorem d20_5 : decode prog_7_method_24_code 5 = .ok (.iaload, 1) := by decide +kernel
theorem d20_6 : decode prog_7_method_24_code 6 = .ok (.iconst 2, 1) := by decide +kernel
theorem d20_7 : decode prog_7_method_24_code 7 = .ok (.if_icmp .ge 5, 3) := by decide +kernel
theorem d20_10 : decode prog_7_method_24_code 10 = .ok (.iconst 0, 1) := by decide +kernel
theorem d20_11 : decode prog_7_method_24_code 11 = .ok (.ireturn, 1) := by decide +kernel
theorem d20_12 : decode prog_7_method_24_code 12 = .ok (.aload_n 0, 1) := by decide +kernel
theorem d20_13 : decode prog_7_method_24_code 13 = .ok (.getfield 40, 3) := by decide +kernel
theorem d20_16 : decode prog_7_method_24_code 16 = .ok (.iload_n 1, 1) := by decide +kernel
theorem d20_17 : decode prog_7_method_24_code 17 = .ok (.iaload, 1) := by decide +kernel
theorem d20_18 : decode prog_7_method_24_code 18 = .ok (.iconst 2, 1) := by decide +kernel
theorem d20_19 : decode prog_7_method_24_code 19 = .ok (.if_icmp .ne 7, 3) := by decide +kernel
theorem d20_22 : decode prog_7_method_24_code 22 = .ok (.iconst 1, 1) := by decide +kernel
theorem d20_23 : decode prog_7_method_24_code 23 = .ok (.goto 4, 3) := by decide +kernel
theorem d20_27 : decode prog_7_method_24_code 27 = .ok (.istore_n 2, 1) := by decide +kernel
abbrev lt17 (a0 : Addr) (a1 : Int32) (a2 : Int32) : Array Slot := #[.val (.ref a0), .val (.int a1), .val (.int a2), .unset, .unset]
theorem d20_28 : decode prog_7_method_24_code 28 = .ok (.iload_n 2, 1) := by decide +kernel
theorem d20_29 : decode prog_7_method_24_code 29 = .ok (.aload_n 0, 1) := by decide +kernel
theorem d20_30 : decode prog_7_method_24_code 30 = .ok (.getfield 43, 3) := by decide +kernel
theorem d20_33 : decode prog_7_method_24_code 33 = .ok (.iload_n 1, 1) := by decide +kernel
theorem d20_34 : decode prog_7_method_24_code 34 = .ok (.iaload, 1) := by decide +kernel
theorem d20_35 : decode prog_7_method_24_code 35 = .ok (.iconst 2, 1) := by decide +kernel
theorem d20_36 : decode prog_7_method_24_code 36 = .ok (.if_icmp .ne 7, 3) := by decide +kernel
theorem d20_39 : decode prog_7_method_24_code 39 = .ok (.iconst 1, 1) := by decide +kernel
theorem d20_40 : decode prog_7_method_24_code 40 = .ok (.goto 4, 3) := by decide +kernel
theorem d20_44 : decode prog_7_method_24_code 44 = .ok (.if_icmp .ne 5, 3) := by decide +kernel
theorem d20_47 : decode prog_7_method_24_code 47 = .ok (.iconst 1, 1) := by decide +kernel
theorem d20_48 : decode prog_7_method_24_code 48 = .ok (.ireturn, 1) := by decide +kernel
theorem d20_43 : decode prog_7_method_24_code 43 = .ok (.iconst 0, 1) := by decide +kernel
theorem d20_49 : decode prog_7_method_24_code 49 = .ok (.iconst 0, 1) := by decide +kernel
theorem d20_50 : decode prog_7_method_24_code 50 = .ok (.istore_n 3, 1) := by decide +kernel
abbrev lt18 (a0 : Addr) (a1 : Int32) (a2 : Int32) (a3 : Int32) : Array Slot := #[.val (.ref a0), .val (.int a1), .val (.int a2), .val (.int a3), .unset]
theorem d20_26 : decode prog_7_method_24_code 26 = .ok (.iconst 0, 1) := by decide +kernel
abbrev lt19 (a0 : Addr) (a1 : Int32) (a2 : Int32) (a3 : Int32) (a4 : Slot) : Array Slot := #[.val (.ref a0), .val (.int a1), .val (.int a2), .val (.int a3), a4]
theorem d20_51 : decode prog_7_method_24_code 51 = .ok (.iload_n 3, 1) := by decide +kernel
theorem d20_52 : decode prog_7_method_24_code 52 = .ok (.aload_n 0, 1) := by decide +kernel
theorem d20_53 : decode prog_7_method_24_code 53 = .ok (.getfield 22, 3) := by decide +kernel
theorem d20_56 : decode prog_7_method_24_code 56 = .ok (.if_icmp .ge 53, 3) := by decide +kernel
theorem d20_59 : decode prog_7_method_24_code 59 = .ok (.iload_n 3, 1) := by decide +kernel
theorem d20_60 : decode prog_7_method_24_code 60 = .ok (.iload_n 1, 1) := by decide +kernel
theorem d20_61 : decode prog_7_method_24_code 61 = .ok (.if_icmp .eq 42, 3) := by decide +kernel
theorem d20_103 : decode prog_7_method_24_code 103 = .ok (.iinc 3 1, 3) := by decide +kernel
theorem d20_106 : decode prog_7_method_24_code 106 = .ok (.goto (-55), 3) := by decide +kernel
theorem d20_64 : decode prog_7_method_24_code 64 = .ok (.aload_n 0, 1) := by decide +kernel
theorem d20_65 : decode prog_7_method_24_code 65 = .ok (.getfield 37, 3) := by decide +kernel
theorem d20_68 : decode prog_7_method_24_code 68 = .ok (.iload_n 1, 1) := by decide +kernel
theorem d20_69 : decode prog_7_method_24_code 69 = .ok (.aaload, 1) := by decide +kernel
theorem d20_70 : decode prog_7_method_24_code 70 = .ok (.iload_n 3, 1) := by decide +kernel
theorem d20_71 : decode prog_7_method_24_code 71 = .ok (.baload, 1) := by decide +kernel
theorem d20_72 : decode prog_7_method_24_code 72 = .ok (.ifCond .ne 31, 3) := by decide +kernel
theorem d20_75 : decode prog_7_method_24_code 75 = .ok (.iload_n 2, 1) := by decide +kernel
theorem d20_76 : decode prog_7_method_24_code 76 = .ok (.ifCond .eq 12, 3) := by decide +kernel
theorem d20_88 : decode prog_7_method_24_code 88 = .ok (.aload_n 0, 1) := by decide +kernel
theorem d20_89 : decode prog_7_method_24_code 89 = .ok (.iload_n 1, 1) := by decide +kernel
theorem d20_90 : decode prog_7_method_24_code 90 = .ok (.iload_n 3, 1) := by decide +kernel
theorem d20_91 : decode prog_7_method_24_code 91 = .ok (.invokevirtual 98, 3) := by decide +kernel
theorem d21_0 : decode prog_7_method_20_code 0 = .ok (.aload_n 0, 1) := by decide +kernel
abbrev lt20 (a0 : Addr) (a1 : Int32) (a2 : Int32) : Array Slot := #[.val (.ref a0), .val (.int a1), .val (.int a2), .unset, .unset, .unset, .unset]
theorem d21_1 : decode prog_7_method_20_code 1 = .ok (.getfield 37, 3) := by decide +kernel
theorem d21_4 : decode prog_7_method_20_code 4 = .ok (.iload_n 1, 1) := by decide +kernel
theorem d21_5 : decode prog_7_method_20_code 5 = .ok (.aaload, 1) := by decide +kernel
theorem d21_6 : decode prog_7_method_20_code 6 = .ok (.iload_n 2, 1) := by decide +kernel
theorem d21_7 : decode prog_7_method_20_code 7 = .ok (.baload, 1) := by decide +kernel
theorem d21_8 : decode prog_7_method_20_code 8 = .ok (.istore_n 3, 1) := by decide +kernel
abbrev lt21 (a0 : Addr) (a1 : Int32) (a2 : Int32) (a3 : Int32) : Array Slot := #[.val (.ref a0), .val (.int a1), .val (.int a2), .val (.int a3), .unset, .unset, .unset]
theorem d21_9 : decode prog_7_method_20_code 9 = .ok (.iload_n 3, 1) := by decide +kernel
theorem d21_10 : decode prog_7_method_20_code 10 = .ok (.ifCond .eq 14, 3) := by decide +kernel
theorem d21_24 : decode prog_7_method_20_code 24 = .ok (.aload_n 0, 1) := by decide +kernel
theorem d21_25 : decode prog_7_method_20_code 25 = .ok (.getfield 40, 3) := by decide +kernel
theorem d21_28 : decode prog_7_method_20_code 28 = .ok (.iload_n 1, 1) := by decide +kernel
theorem d21_29 : decode prog_7_method_20_code 29 = .ok (.iaload, 1) := by decide +kernel
theorem d21_30 : decode prog_7_method_20_code 30 = .ok (.iconst 2, 1) := by decide +kernel
theorem d21_31 : decode prog_7_method_20_code 31 = .ok (.if_icmp .eq 13, 3) := by decide +kernel
theorem d21_44 : decode prog_7_method_20_code 44 = .ok (.iconst 0, 1) := by decide +kernel
theorem d21_45 : decode prog_7_method_20_code 45 = .ok (.ireturn, 1) := by decide +kernel
theorem d21_34 : decode prog_7_method_20_code 34 = .ok (.aload_n 0, 1) := by decide +kernel
theorem d21_35 : decode prog_7_method_20_code 35 = .ok (.getfield 40, 3) := by decide +kernel
theorem d21_38 : decode prog_7_method_20_code 38 = .ok (.iload_n 2, 1) := by decide +kernel
theorem d21_39 : decode prog_7_method_20_code 39 = .ok (.iaload, 1) := by decide +kernel
theorem d21_40 : decode prog_7_method_20_code 40 = .ok (.iconst 2, 1) := by decide +kernel
theorem d21_41 : decode prog_7_method_20_code 41 = .ok (.if_icmp .ne 5, 3) := by decide +kernel
theorem d21_46 : decode prog_7_method_20_code 46 = .ok (.aload_n 0, 1) := by decide +kernel
theorem d21_47 : decode prog_7_method_20_code 47 = .ok (.getfield 69, 3) := by decide +kernel
theorem d21_50 : decode prog_7_method_20_code 50 = .ok (.iload_n 1, 1) := by decide +kernel
theorem d21_51 : decode prog_7_method_20_code 51 = .ok (.iaload, 1) := by decide +kernel
theorem d21_52 : decode prog_7_method_20_code 52 = .ok (.istore 4, 2) := by decide +kernel
abbrev lt22 (a0 : Addr) (a1 : Int32) (a2 : Int32) (a3 : Int32) (a4 : Int32) : Array Slot := #[.val (.ref a0), .val (.int a1), .val (.int a2), .val (.int a3), .val (.int a4), .unset, .unset]
theorem d21_54 : decode prog_7_method_20_code 54 = .ok (.aload_n 0, 1) := by decide +kernel
theorem d21_55 : decode prog_7_method_20_code 55 = .ok (.getfield 69, 3) := by decide +kernel
theorem d21_58 : decode prog_7_method_20_code 58 = .ok (.iload_n 2, 1) := by decide +kernel
theorem d21_59 : decode prog_7_method_20_code 59 = .ok (.iaload, 1) := by decide +kernel
theorem d21_60 : decode prog_7_method_20_code 60 = .ok (.istore 5, 2) := by decide +kernel
abbrev lt23 (a0 : Addr) (a1 : Int32) (a2 : Int32) (a3 : Int32) (a4 : Int32) (a5 : Int32) : Array Slot := #[.val (.ref a0), .val (.int a1), .val (.int a2), .val (.int a3), .val (.int a4), .val (.int a5), .unset]
theorem d21_62 : decode prog_7_method_20_code 62 = .ok (.aload_n 0, 1) := by decide +kernel
theorem d21_63 : decode prog_7_method_20_code 63 = .ok (.iload_n 1, 1) := by decide +kernel
theorem d21_64 : decode prog_7_method_20_code 64 = .ok (.iload_n 2, 1) := by decide +kernel
theorem d21_65 : decode prog_7_method_20_code 65 = .ok (.iconst 1, 1) := by decide +kernel
theorem d21_66 : decode prog_7_method_20_code 66 = .ok (.invokevirtual 122, 3) := by decide +kernel
theorem d21_69 : decode prog_7_method_20_code 69 = .ok (.aload_n 0, 1) := by decide +kernel
theorem d21_70 : decode prog_7_method_20_code 70 = .ok (.getfield 40, 3) := by decide +kernel
theorem d21_73 : decode prog_7_method_20_code 73 = .ok (.iload_n 1, 1) := by decide +kernel
theorem d21_74 : decode prog_7_method_20_code 74 = .ok (.dup2, 1) := by decide +kernel
theorem d21_75 : decode prog_7_method_20_code 75 = .ok (.iaload, 1) := by decide +kernel
theorem d21_76 : decode prog_7_method_20_code 76 = .ok (.iconst 1, 1) := by decide +kernel
theorem d21_77 : decode prog_7_method_20_code 77 = .ok (.iadd, 1) := by decide +kernel
theorem d21_78 : decode prog_7_method_20_code 78 = .ok (.iastore, 1) := by decide +kernel
theorem d21_79 : decode prog_7_method_20_code 79 = .ok (.aload_n 0, 1) := by decide +kernel
theorem d21_80 : decode prog_7_method_20_code 80 = .ok (.getfield 40, 3) := by decide +kernel
theorem d21_83 : decode prog_7_method_20_code 83 = .ok (.iload_n 2, 1) := by decide +kernel
theorem d21_84 : decode prog_7_method_20_code 84 = .ok (.dup2, 1) := by decide +kernel
theorem d21_85 : decode prog_7_method_20_code 85 = .ok (.iaload, 1) := by decide +kernel
theorem d21_86 : decode prog_7_method_20_code 86 = .ok (.iconst 1, 1) := by decide +kernel
theorem d21_87 : decode prog_7_method_20_code 87 = .ok (.iadd, 1) := by decide +kernel
theorem d21_88 : decode prog_7_method_20_code 88 = .ok (.iastore, 1) := by decide +kernel
theorem d21_89 : decode prog_7_method_20_code 89 = .ok (.aload_n 0, 1) := by decide +kernel
theorem d21_90 : decode prog_7_method_20_code 90 = .ok (.iload_n 1, 1) := by decide +kernel
theorem d21_91 : decode prog_7_method_20_code 91 = .ok (.invokevirtual 104, 3) := by decide +kernel
theorem d21_94 : decode prog_7_method_20_code 94 = .ok (.aload_n 0, 1) := by decide +kernel
theorem d21_95 : decode prog_7_method_20_code 95 = .ok (.iload_n 2, 1) := by decide +kernel
theorem d21_96 : decode prog_7_method_20_code 96 = .ok (.invokevirtual 104, 3) := by decide +kernel
theorem d21_99 : decode prog_7_method_20_code 99 = .ok (.iload 4, 2) := by decide +kernel
theorem d21_101 : decode prog_7_method_20_code 101 = .ok (.iload_n 2, 1) := by decide +kernel
theorem d21_102 : decode prog_7_method_20_code 102 = .ok (.if_icmp .ne 5, 3) := by decide +kernel
theorem d21_105 : decode prog_7_method_20_code 105 = .ok (.iconst 1, 1) := by decide +kernel
theorem d21_106 : decode prog_7_method_20_code 106 = .ok (.ireturn, 1) := by decide +kernel
theorem d21_107 : decode prog_7_method_20_code 107 = .ok (.aload_n 0, 1) := by decide +kernel
theorem d21_108 : decode prog_7_method_20_code 108 = .ok (.getfield 72, 3) := by decide +kernel
theorem d21_111 : decode prog_7_method_20_code 111 = .ok (.iload_n 1, 1) := by decide +kernel
theorem d21_112 : decode prog_7_method_20_code 112 = .ok (.iaload, 1) := by decide +kernel
theorem d21_113 : decode prog_7_method_20_code 113 = .ok (.aload_n 0, 1) := by decide +kernel
theorem d21_114 : decode prog_7_method_20_code 114 = .ok (.getfield 72, 3) := by decide +kernel
theorem d21_117 : decode prog_7_method_20_code 117 = .ok (.iload_n 2, 1) := by decide +kernel
theorem d21_118 : decode prog_7_method_20_code 118 = .ok (.iaload, 1) := by decide +kernel
theorem d21_119 : decode prog_7_method_20_code 119 = .ok (.iadd, 1) := by decide +kernel
theorem d21_120 : decode prog_7_method_20_code 120 = .ok (.istore 6, 2) := by decide +kernel
abbrev lt24 (a0 : Addr) (a1 : Int32) (a2 : Int32) (a3 : Int32) (a4 : Int32) (a5 : Int32) (a6 : Int32) : Array Slot := #[.val (.ref a0), .val (.int a1), .val (.int a2), .val (.int a3), .val (.int a4), .val (.int a5), .val (.int a6)]
theorem d21_122 : decode prog_7_method_20_code 122 = .ok (.aload_n 0, 1) := by decide +kernel
theorem d21_123 : decode prog_7_method_20_code 123 = .ok (.iload 4, 2) := by decide +kernel
theorem d21_125 : decode prog_7_method_20_code 125 = .ok (.iload 5, 2) := by decide +kernel
theorem d21_127 : decode prog_7_method_20_code 127 = .ok (.iload 6, 2) := by decide +kernel
theorem d21_129 : decode prog_7_method_20_code 129 = .ok (.invokevirtual 126, 3) := by decide +kernel
theorem d22_0 : decode prog_7_method_26_code 0 = .ok (.aload_n 0, 1) := by decide +kernel
theorem d22_1 : decode prog_7_method_26_code 1 = .ok (.getfield 66, 3) := by decide +kernel
theorem d22_4 : decode prog_7_method_26_code 4 = .ok (.aload_n 0, 1) := by decide +kernel
theorem d22_5 : decode prog_7_method_26_code 5 = .ok (.dup, 1) := by decide +kernel
theorem d22_6 : decode prog_7_method_26_code 6 = .ok (.getfield 119, 3) := by decide +kernel
theorem d22_9 : decode prog_7_method_26_code 9 = .ok (.dup_x1, 1) := by decide +kernel
theorem d22_10 : decode prog_7_method_26_code 10 = .ok (.iconst 1, 1) := by decide +kernel
theorem d22_11 : decode prog_7_method_26_code 11 = .ok (.iadd, 1) := by decide +kernel
theorem d22_12 : decode prog_7_method_26_code 12 = .ok (.putfield 119, 3) := by decide +kernel
theorem d22_15 : decode prog_7_method_26_code 15 = .ok (.aload_n 0, 1) := by decide +kernel
theorem d22_16 : decode prog_7_method_26_code 16 = .ok (.getfield 69, 3) := by decide +kernel
theorem d22_19 : decode prog_7_method_26_code 19 = .ok (.iload_n 1, 1) := by decide +kernel
theorem d22_20 : decode prog_7_method_26_code 20 = .ok (.iaload, 1) := by decide +kernel
theorem d22_21 : decode prog_7_method_26_code 21 = .ok (.iastore, 1) := by decide +kernel
theorem d22_22 : decode prog_7_method_26_code 22 = .ok (.aload_n 0, 1) := by decide +kernel
theorem d22_23 : decode prog_7_method_26_code 23 = .ok (.getfield 66, 3) := by decide +kernel
theorem d22_26 : decode prog_7_method_26_code 26 = .ok (.aload_n 0, 1) := by decide +kernel
theorem d22_27 : decode prog_7_method_26_code 27 = .ok (.dup, 1) := by decide +kernel
theorem d22_28 : decode prog_7_method_26_code 28 = .ok (.getfield 119, 3) := by decide +kernel
theorem d22_31 : decode prog_7_method_26_code 31 = .ok (.dup_x1, 1) := by decide +kernel
theorem d22_32 : decode prog_7_method_26_code 32 = .ok (.iconst 1, 1) := by decide +kernel
theorem d22_33 : decode prog_7_method_26_code 33 = .ok (.iadd, 1) := by decide +kernel
theorem d22_34 : decode prog_7_method_26_code 34 = .ok (.putfield 119, 3) := by decide +kernel
theorem d22_37 : decode prog_7_method_26_code 37 = .ok (.aload_n 0, 1) := by decide +kernel
theorem d22_38 : decode prog_7_method_26_code 38 = .ok (.getfield 72, 3) := by decide +kernel
theorem d22_41 : decode prog_7_method_26_code 41 = .ok (.iload_n 1, 1) := by decide +kernel
theorem d22_42 : decode prog_7_method_26_code 42 = .ok (.iaload, 1) := by decide +kernel
theorem d22_43 : decode prog_7_method_26_code 43 = .ok (.iastore, 1) := by decide +kernel
theorem d22_44 : decode prog_7_method_26_code 44 = .ok (.aload_n 0, 1) := by decide +kernel
theorem d22_45 : decode prog_7_method_26_code 45 = .ok (.getfield 66, 3) := by decide +kernel
theorem d22_48 : decode prog_7_method_26_code 48 = .ok (.aload_n 0, 1) := by decide +kernel
theorem d22_49 : decode prog_7_method_26_code 49 = .ok (.dup, 1) := by decide +kernel
theorem d22_50 : decode prog_7_method_26_code 50 = .ok (.getfield 119, 3) := by decide +kernel
theorem d22_53 : decode prog_7_method_26_code 53 = .ok (.dup_x1, 1) := by decide +kernel
theorem d22_54 : decode prog_7_method_26_code 54 = .ok (.iconst 1, 1) := by decide +kernel
theorem d22_55 : decode prog_7_method_26_code 55 = .ok (.iadd, 1) := by decide +kernel
theorem d22_56 : decode prog_7_method_26_code 56 = .ok (.putfield 119, 3) := by decide +kernel
theorem d22_59 : decode prog_7_method_26_code 59 = .ok (.iload_n 1, 1) := by decide +kernel
theorem d22_60 : decode prog_7_method_26_code 60 = .ok (.iconst (-1), 1) := by decide +kernel
theorem d22_61 : decode prog_7_method_26_code 61 = .ok (.ixor, 1) := by decide +kernel
theorem d22_62 : decode prog_7_method_26_code 62 = .ok (.iastore, 1) := by decide +kernel
theorem d22_63 : decode prog_7_method_26_code 63 = .ok (.aload_n 0, 1) := by decide +kernel
theorem d22_64 : decode prog_7_method_26_code 64 = .ok (.getfield 69, 3) := by decide +kernel
theorem d22_67 : decode prog_7_method_26_code 67 = .ok (.iload_n 1, 1) := by decide +kernel
theorem d22_68 : decode prog_7_method_26_code 68 = .ok (.iload_n 2, 1) := by decide +kernel
theorem d22_69 : decode prog_7_method_26_code 69 = .ok (.iastore, 1) := by decide +kernel
theorem d22_70 : decode prog_7_method_26_code 70 = .ok (.aload_n 0, 1) := by decide +kernel
theorem d22_71 : decode prog_7_method_26_code 71 = .ok (.getfield 72, 3) := by decide +kernel
theorem d22_74 : decode prog_7_method_26_code 74 = .ok (.iload_n 1, 1) := by decide +kernel
theorem d22_75 : decode prog_7_method_26_code 75 = .ok (.iload_n 3, 1) := by decide +kernel
theorem d22_76 : decode prog_7_method_26_code 76 = .ok (.iastore, 1) := by decide +kernel
theorem d22_77 : decode prog_7_method_26_code 77 = .ok (.return_, 1) := by decide +kernel
abbrev Y31 : MethodName := (⟨"com/example/onetree/onetree/EdgeStates", "setPathEnd", "(III)V"⟩ : MethodName)
theorem pd_6 : parseMethodDescriptor "(III)V" = some ⟨[.int, .int, .int], none⟩ := by decide +kernel
theorem d21_132 : decode prog_7_method_20_code 132 = .ok (.aload_n 0, 1) := by decide +kernel
theorem d21_133 : decode prog_7_method_20_code 133 = .ok (.iload 5, 2) := by decide +kernel
theorem d21_135 : decode prog_7_method_20_code 135 = .ok (.iload 4, 2) := by decide +kernel
theorem d21_137 : decode prog_7_method_20_code 137 = .ok (.iload 6, 2) := by decide +kernel
theorem d21_139 : decode prog_7_method_20_code 139 = .ok (.invokevirtual 126, 3) := by decide +kernel
theorem d21_142 : decode prog_7_method_20_code 142 = .ok (.iload 6, 2) := by decide +kernel
theorem d21_144 : decode prog_7_method_20_code 144 = .ok (.aload_n 0, 1) := by decide +kernel
theorem d21_145 : decode prog_7_method_20_code 145 = .ok (.getfield 22, 3) := by decide +kernel
theorem d21_148 : decode prog_7_method_20_code 148 = .ok (.if_icmp .eq 20, 3) := by decide +kernel
theorem d21_168 : decode prog_7_method_20_code 168 = .ok (.iconst 1, 1) := by decide +kernel
theorem d21_169 : decode prog_7_method_20_code 169 = .ok (.goto 4, 3) := by decide +kernel
theorem d21_173 : decode prog_7_method_20_code 173 = .ok (.ireturn, 1) := by decide +kernel
theorem d21_151 : decode prog_7_method_20_code 151 = .ok (.iload 6, 2) := by decide +kernel
theorem d21_153 : decode prog_7_method_20_code 153 = .ok (.iconst 2, 1) := by decide +kernel
theorem d21_154 : decode prog_7_method_20_code 154 = .ok (.if_icmp .eq 14, 3) := by decide +kernel
theorem d21_157 : decode prog_7_method_20_code 157 = .ok (.aload_n 0, 1) := by decide +kernel
theorem d21_158 : decode prog_7_method_20_code 158 = .ok (.iload 4, 2) := by decide +kernel
theorem d21_160 : decode prog_7_method_20_code 160 = .ok (.iload 5, 2) := by decide +kernel
theorem d21_162 : decode prog_7_method_20_code 162 = .ok (.invokevirtual 112, 3) := by decide +kernel
theorem d21_165 : decode prog_7_method_20_code 165 = .ok (.ifCond .eq 7, 3) := by decide +kernel
theorem d21_172 : decode prog_7_method_20_code 172 = .ok (.iconst 0, 1) := by decide +kernel
theorem d21_13 : decode prog_7_method_20_code 13 = .ok (.iload_n 3, 1) := by decide +kernel
theorem d21_14 : decode prog_7_method_20_code 14 = .ok (.iconst 1, 1) := by decide +kernel
theorem d21_15 : decode prog_7_method_20_code 15 = .ok (.if_icmp .ne 7, 3) := by decide +kernel
theorem d21_18 : decode prog_7_method_20_code 18 = .ok (.iconst 1, 1) := by decide +kernel
theorem d21_19 : decode prog_7_method_20_code 19 = .ok (.goto 4, 3) := by decide +kernel
theorem d21_23 : decode prog_7_method_20_code 23 = .ok (.ireturn, 1) := by decide +kernel
theorem d21_22 : decode prog_7_method_20_code 22 = .ok (.iconst 0, 1) := by decide +kernel
abbrev Y32 : MethodName := (⟨"com/example/onetree/onetree/EdgeStates", "setForced", "(II)Z"⟩ : MethodName)
theorem d20_94 : decode prog_7_method_24_code 94 = .ok (.istore 4, 2) := by decide +kernel
theorem d20_96 : decode prog_7_method_24_code 96 = .ok (.iload 4, 2) := by decide +kernel
abbrev lt25 (a0 : Addr) (a1 : Int32) (a2 : Int32) (a3 : Int32) (a4 : Int32) : Array Slot := #[.val (.ref a0), .val (.int a1), .val (.int a2), .val (.int a3), .val (.int a4)]
theorem d20_98 : decode prog_7_method_24_code 98 = .ok (.ifCond .ne 5, 3) := by decide +kernel
theorem d20_101 : decode prog_7_method_24_code 101 = .ok (.iconst 0, 1) := by decide +kernel
theorem d20_102 : decode prog_7_method_24_code 102 = .ok (.ireturn, 1) := by decide +kernel
theorem d20_79 : decode prog_7_method_24_code 79 = .ok (.aload_n 0, 1) := by decide +kernel
theorem d20_80 : decode prog_7_method_24_code 80 = .ok (.iload_n 1, 1) := by decide +kernel
theorem d20_81 : decode prog_7_method_24_code 81 = .ok (.iload_n 3, 1) := by decide +kernel
theorem d20_82 : decode prog_7_method_24_code 82 = .ok (.invokevirtual 112, 3) := by decide +kernel
theorem d20_85 : decode prog_7_method_24_code 85 = .ok (.goto 9, 3) := by decide +kernel
theorem d20_109 : decode prog_7_method_24_code 109 = .ok (.iconst 1, 1) := by decide +kernel
theorem d20_110 : decode prog_7_method_24_code 110 = .ok (.ireturn, 1) := by decide +kernel
abbrev Y34 : MethodName := (⟨"com/example/onetree/onetree/EdgeStates", "applyDegreeRules", "(I)Z"⟩ : MethodName)
theorem pd_7 : parseMethodDescriptor "(I)Z" = some ⟨[.int], some .boolean⟩ := by decide +kernel
theorem d19_54 : decode prog_7_method_22_code 54 = .ok (.ifCond .ne 9, 3) := by decide +kernel
theorem d19_57 : decode prog_7_method_22_code 57 = .ok (.aload_n 0, 1) := by decide +kernel
theorem d19_58 : decode prog_7_method_22_code 58 = .ok (.invokevirtual 101, 3) := by decide +kernel
abbrev lt26 (a0 : Addr) : Array Slot := #[.val (.ref a0)]
theorem d25_0 : decode prog_7_method_23_code 0 = .ok (.aload_n 0, 1) := by decide +kernel
theorem d25_1 : decode prog_7_method_23_code 1 = .ok (.getfield 130, 3) := by decide +kernel
theorem d25_4 : decode prog_7_method_23_code 4 = .ok (.ifCond .le 46, 3) := by decide +kernel
theorem d25_7 : decode prog_7_method_23_code 7 = .ok (.aload_n 0, 1) := by decide +kernel
theorem d25_8 : decode prog_7_method_23_code 8 = .ok (.getfield 78, 3) := by decide +kernel
theorem d25_11 : decode prog_7_method_23_code 11 = .ok (.aload_n 0, 1) := by decide +kernel
theorem d25_12 : decode prog_7_method_23_code 12 = .ok (.getfield 75, 3) := by decide +kernel
theorem d25_15 : decode prog_7_method_23_code 15 = .ok (.aload_n 0, 1) := by decide +kernel
theorem d25_16 : decode prog_7_method_23_code 16 = .ok (.getfield 133, 3) := by decide +kernel
theorem d25_19 : decode prog_7_method_23_code 19 = .ok (.iaload, 1) := by decide +kernel
theorem d25_20 : decode prog_7_method_23_code 20 = .ok (.iconst 0, 1) := by decide +kernel
theorem d25_21 : decode prog_7_method_23_code 21 = .ok (.bastore, 1) := by decide +kernel
theorem d25_22 : decode prog_7_method_23_code 22 = .ok (.aload_n 0, 1) := by decide +kernel
theorem d25_23 : decode prog_7_method_23_code 23 = .ok (.aload_n 0, 1) := by decide +kernel
theorem d25_24 : decode prog_7_method_23_code 24 = .ok (.getfield 133, 3) := by decide +kernel
theorem d25_27 : decode prog_7_method_23_code 27 = .ok (.iconst 1, 1) := by decide +kernel
theorem d25_28 : decode prog_7_method_23_code 28 = .ok (.iadd, 1) := by decide +kernel
theorem d25_29 : decode prog_7_method_23_code 29 = .ok (.aload_n 0, 1) := by decide +kernel
theorem d25_30 : decode prog_7_method_23_code 30 = .ok (.getfield 22, 3) := by decide +kernel
theorem d25_33 : decode prog_7_method_23_code 33 = .ok (.irem, 1) := by decide +kernel
theorem d25_34 : decode prog_7_method_23_code 34 = .ok (.putfield 133, 3) := by decide +kernel
theorem d25_37 : decode prog_7_method_23_code 37 = .ok (.aload_n 0, 1) := by decide +kernel
theorem d25_38 : decode prog_7_method_23_code 38 = .ok (.dup, 1) := by decide +kernel
theorem d25_39 : decode prog_7_method_23_code 39 = .ok (.getfield 130, 3) := by decide +kernel
theorem d25_42 : decode prog_7_method_23_code 42 = .ok (.iconst 1, 1) := by decide +kernel
theorem d25_43 : decode prog_7_method_23_code 43 = .ok (.isub, 1) := by decide +kernel
theorem d25_44 : decode prog_7_method_23_code 44 = .ok (.putfield 130, 3) := by decide +kernel
theorem d25_47 : decode prog_7_method_23_code 47 = .ok (.goto (-47), 3) := by decide +kernel
theorem d25_50 : decode prog_7_method_23_code 50 = .ok (.return_, 1) := by decide +kernel
abbrev Y36 : MethodName := (⟨"com/example/onetree/onetree/EdgeStates", "clearPending", "()V"⟩ : MethodName)
theorem pd_8 : parseMethodDescriptor "()V" = some ⟨[], none⟩ := by decide +kernel
theorem d19_61 : decode prog_7_method_22_code 61 = .ok (.iconst 0, 1) := by decide +kernel
theorem d19_62 : decode prog_7_method_22_code 62 = .ok (.ireturn, 1) := by decide +kernel
theorem d19_63 : decode prog_7_method_22_code 63 = .ok (.goto (-63), 3) := by decide +kernel
theorem d19_66 : decode prog_7_method_22_code 66 = .ok (.iconst 1, 1) := by decide +kernel
theorem d19_67 : decode prog_7_method_22_code 67 = .ok (.ireturn, 1) := by decide +kernel
abbrev Y37 : MethodName := (⟨"com/example/onetree/onetree/EdgeStates", "propagate", "()Z"⟩ : MethodName)
theorem pd_9 : parseMethodDescriptor "()Z" = some ⟨[], some .boolean⟩ := by decide +kernel
theorem d15_13 : decode prog_7_method_13_code 13 = .ok (.ifCond .eq 7, 3) := by decide +kernel
theorem d15_16 : decode prog_7_method_13_code 16 = .ok (.iconst 1, 1) := by decide +kernel
theorem d15_17 : decode prog_7_method_13_code 17 = .ok (.goto 4, 3) := by decide +kernel
abbrev Y38 : MethodName := (⟨"com/example/onetree/onetree/EdgeStates", "remove", "(II)Z"⟩ : MethodName)
theorem d6_38 : decode method_3_code 38 = .ok (.pop, 1) := by decide +kernel
theorem d6_39 : decode method_3_code 39 = .ok (.goto 17, 3) := by decide +kernel
theorem d6_56 : decode method_3_code 56 = .ok (.return_, 1) := by decide +kernel
theorem d6_25 : decode method_3_code 25 = .ok (.iload_n 1, 1) := by decide +kernel
theorem d6_26 : decode method_3_code 26 = .ok (.iconst 3, 1) := by decide +kernel
theorem d6_27 : decode method_3_code 27 = .ok (.if_icmp .ne 15, 3) := by decide +kernel
theorem d6_42 : decode method_3_code 42 = .ok (.iload_n 1, 1) := by decide +kernel
theorem d6_43 : decode method_3_code 43 = .ok (.iconst 2, 1) := by decide +kernel
theorem d6_44 : decode method_3_code 44 = .ok (.if_icmp .ne 12, 3) := by decide +kernel
theorem d6_47 : decode method_3_code 47 = .ok (.aload_n 0, 1) := by decide +kernel
theorem d6_48 : decode method_3_code 48 = .ok (.iload 4, 2) := by decide +kernel
theorem d6_50 : decode method_3_code 50 = .ok (.iload 5, 2) := by decide +kernel
theorem d6_52 : decode method_3_code 52 = .ok (.invokevirtual 44, 3) := by decide +kernel
theorem d23_0 : decode prog_7_method_12_code 0 = .ok (.aload_n 0, 1) := by decide +kernel
theorem d23_1 : decode prog_7_method_12_code 1 = .ok (.iload_n 1, 1) := by decide +kernel
theorem d23_2 : decode prog_7_method_12_code 2 = .ok (.iload_n 2, 1) := by decide +kernel
theorem d23_3 : decode prog_7_method_12_code 3 = .ok (.invokevirtual 98, 3) := by decide +kernel
theorem d23_6 : decode prog_7_method_12_code 6 = .ok (.ifCond .eq 14, 3) := by decide +kernel
theorem d23_20 : decode prog_7_method_12_code 20 = .ok (.iconst 0, 1) := by decide +kernel
theorem d23_21 : decode prog_7_method_12_code 21 = .ok (.ireturn, 1) := by decide +kernel
theorem d23_9 : decode prog_7_method_12_code 9 = .ok (.aload_n 0, 1) := by decide +kernel
theorem d23_10 : decode prog_7_method_12_code 10 = .ok (.invokevirtual 108, 3) := by decide +kernel
theorem d23_13 : decode prog_7_method_12_code 13 = .ok (.ifCond .eq 7, 3) := by decide +kernel
theorem d23_16 : decode prog_7_method_12_code 16 = .ok (.iconst 1, 1) := by decide +kernel
theorem d23_17 : decode prog_7_method_12_code 17 = .ok (.goto 4, 3) := by decide +kernel
abbrev Y39 : MethodName := (⟨"com/example/onetree/onetree/EdgeStates", "force", "(II)Z"⟩ : MethodName)
theorem d6_55 : decode method_3_code 55 = .ok (.pop, 1) := by decide +kernel
abbrev Y40 : MethodName := (⟨"com/example/onetree/onetree/EdgeStatesListNeighboursPinLaw", "apply", "(Lcom/example/onetree/onetree/EdgeStates;III)V"⟩ : MethodName)
theorem pd_10 : parseMethodDescriptor "(Lcom/example/onetree/onetree/EdgeStates;III)V" = some ⟨[(.object "com/example/onetree/onetree/EdgeStates"), .int, .int, .int], none⟩ := by decide +kernel
theorem d7_0 : decode prog_7_method_18_code 0 = .ok (.aload_n 0, 1) := by decide +kernel
theorem d7_1 : decode prog_7_method_18_code 1 = .ok (.getfield 119, 3) := by decide +kernel
theorem d7_4 : decode prog_7_method_18_code 4 = .ok (.ireturn, 1) := by decide +kernel
abbrev Y41 : MethodName := (⟨"com/example/onetree/onetree/EdgeStates", "mark", "()I"⟩ : MethodName)
theorem pd_11 : parseMethodDescriptor "()I" = some ⟨[], some .int⟩ := by decide +kernel
abbrev lt27 (a0 : Int32) (a1 : Int32) (a2 : Int32) (a3 : Int32) (a4 : Int32) (a5 : Addr) (a6 : Int32) : Array Slot := #[.val (.int a0), .val (.int a1), .val (.int a2), .val (.int a3), .val (.int a4), .val (.ref a5), .val (.int a6)]
theorem d8_0 : decode prog_7_method_14_code 0 = .ok (.aload_n 0, 1) := by decide +kernel
abbrev lt28 (a0 : Addr) : Array Slot := #[.val (.ref a0), .unset, .unset, .unset, .unset]
theorem d8_1 : decode prog_7_method_14_code 1 = .ok (.getfield 115, 3) := by decide +kernel
theorem d8_4 : decode prog_7_method_14_code 4 = .ok (.ifCond .eq 4, 3) := by decide +kernel
theorem d8_8 : decode prog_7_method_14_code 8 = .ok (.iconst 0, 1) := by decide +kernel
theorem d8_9 : decode prog_7_method_14_code 9 = .ok (.istore_n 1, 1) := by decide +kernel
theorem d8_10 : decode prog_7_method_14_code 10 = .ok (.iconst 0, 1) := by decide +kernel
theorem d8_11 : decode prog_7_method_14_code 11 = .ok (.istore_n 2, 1) := by decide +kernel
theorem d8_7 : decode prog_7_method_14_code 7 = .ok (.return_, 1) := by decide +kernel
abbrev lt29 (a0 : Addr) (a1 : Int32) (a2 : Int32) (a3 : Slot) (a4 : Slot) : Array Slot := #[.val (.ref a0), .val (.int a1), .val (.int a2), a3, a4]
theorem d8_12 : decode prog_7_method_14_code 12 = .ok (.iload_n 2, 1) := by decide +kernel
theorem d8_13 : decode prog_7_method_14_code 13 = .ok (.aload_n 0, 1) := by decide +kernel
theorem d8_14 : decode prog_7_method_14_code 14 = .ok (.getfield 22, 3) := by decide +kernel
theorem d8_17 : decode prog_7_method_14_code 17 = .ok (.if_icmp .ge 66, 3) := by decide +kernel
theorem d8_20 : decode prog_7_method_14_code 20 = .ok (.aload_n 0, 1) := by decide +kernel
theorem d8_21 : decode prog_7_method_14_code 21 = .ok (.getfield 82, 3) := by decide +kernel
theorem d8_24 : decode prog_7_method_14_code 24 = .ok (.iload_n 2, 1) := by decide +kernel
theorem d8_25 : decode prog_7_method_14_code 25 = .ok (.iload_n 1, 1) := by decide +kernel
theorem d8_26 : decode prog_7_method_14_code 26 = .ok (.iastore, 1) := by decide +kernel
theorem d8_27 : decode prog_7_method_14_code 27 = .ok (.aload_n 0, 1) := by decide +kernel
theorem d8_28 : decode prog_7_method_14_code 28 = .ok (.getfield 37, 3) := by decide +kernel
theorem d8_31 : decode prog_7_method_14_code 31 = .ok (.iload_n 2, 1) := by decide +kernel
theorem d8_32 : decode prog_7_method_14_code 32 = .ok (.aaload, 1) := by decide +kernel
theorem d8_33 : decode prog_7_method_14_code 33 = .ok (.astore_n 3, 1) := by decide +kernel
theorem d8_34 : decode prog_7_method_14_code 34 = .ok (.iconst 0, 1) := by decide +kernel
abbrev lt30 (a0 : Addr) (a1 : Int32) (a2 : Int32) (a3 : Addr) (a4 : Slot) : Array Slot := #[.val (.ref a0), .val (.int a1), .val (.int a2), .val (.ref a3), a4]
theorem d8_35 : decode prog_7_method_14_code 35 = .ok (.istore 4, 2) := by decide +kernel
abbrev lt31 (a0 : Addr) (a1 : Int32) (a2 : Int32) (a3 : Addr) (a4 : Int32) : Array Slot := #[.val (.ref a0), .val (.int a1), .val (.int a2), .val (.ref a3), .val (.int a4)]
theorem d8_83 : decode prog_7_method_14_code 83 = .ok (.aload_n 0, 1) := by decide +kernel
theorem d8_84 : decode prog_7_method_14_code 84 = .ok (.getfield 82, 3) := by decide +kernel
theorem d8_87 : decode prog_7_method_14_code 87 = .ok (.aload_n 0, 1) := by decide +kernel
theorem d8_88 : decode prog_7_method_14_code 88 = .ok (.getfield 22, 3) := by decide +kernel
theorem d8_91 : decode prog_7_method_14_code 91 = .ok (.iload_n 1, 1) := by decide +kernel
theorem d8_92 : decode prog_7_method_14_code 92 = .ok (.iastore, 1) := by decide +kernel
theorem d8_93 : decode prog_7_method_14_code 93 = .ok (.aload_n 0, 1) := by decide +kernel
theorem d8_94 : decode prog_7_method_14_code 94 = .ok (.iconst 1, 1) := by decide +kernel
theorem d8_95 : decode prog_7_method_14_code 95 = .ok (.putfield 115, 3) := by decide +kernel
theorem d8_98 : decode prog_7_method_14_code 98 = .ok (.return_, 1) := by decide +kernel
theorem d8_37 : decode prog_7_method_14_code 37 = .ok (.iload 4, 2) := by decide +kernel
theorem d8_39 : decode prog_7_method_14_code 39 = .ok (.aload_n 0, 1) := by decide +kernel
theorem d8_40 : decode prog_7_method_14_code 40 = .ok (.getfield 22, 3) := by decide +kernel
theorem d8_43 : decode prog_7_method_14_code 43 = .ok (.if_icmp .ge 34, 3) := by decide +kernel
theorem d8_46 : decode prog_7_method_14_code 46 = .ok (.iload 4, 2) := by decide +kernel
theorem d8_48 : decode prog_7_method_14_code 48 = .ok (.iload_n 2, 1) := by decide +kernel
theorem d8_49 : decode prog_7_method_14_code 49 = .ok (.if_icmp .eq 22, 3) := by decide +kernel
theorem d8_71 : decode prog_7_method_14_code 71 = .ok (.iinc 4 1, 3) := by decide +kernel
theorem d8_74 : decode prog_7_method_14_code 74 = .ok (.goto (-37), 3) := by decide +kernel
theorem d8_52 : decode prog_7_method_14_code 52 = .ok (.aload_n 3, 1) := by decide +kernel
theorem d8_53 : decode prog_7_method_14_code 53 = .ok (.iload 4, 2) := by decide +kernel
theorem d8_55 : decode prog_7_method_14_code 55 = .ok (.baload, 1) := by decide +kernel
theorem d8_56 : decode prog_7_method_14_code 56 = .ok (.iconst 2, 1) := by decide +kernel
theorem d8_57 : decode prog_7_method_14_code 57 = .ok (.if_icmp .eq 14, 3) := by decide +kernel
theorem d8_60 : decode prog_7_method_14_code 60 = .ok (.aload_n 0, 1) := by decide +kernel
theorem d8_61 : decode prog_7_method_14_code 61 = .ok (.getfield 85, 3) := by decide +kernel
theorem d8_64 : decode prog_7_method_14_code 64 = .ok (.iload_n 1, 1) := by decide +kernel
theorem d8_65 : decode prog_7_method_14_code 65 = .ok (.iinc 1 1, 3) := by decide +kernel
theorem d8_68 : decode prog_7_method_14_code 68 = .ok (.iload 4, 2) := by decide +kernel
theorem d8_70 : decode prog_7_method_14_code 70 = .ok (.iastore, 1) := by decide +kernel
theorem d8_77 : decode prog_7_method_14_code 77 = .ok (.iinc 2 1, 3) := by decide +kernel
theorem d8_80 : decode prog_7_method_14_code 80 = .ok (.goto (-68), 3) := by decide +kernel
abbrev Y47 : MethodName := (⟨"com/example/onetree/onetree/EdgeStates", "listNeighbours", "()V"⟩ : MethodName)
abbrev lt32 (a0 : Int32) (a1 : Slot) (a2 : Slot) (a3 : Int32) (a4 : Int32) (a5 : Addr) (a6 : Int32) : Array Slot := #[.val (.int a0), a1, a2, .val (.int a3), .val (.int a4), .val (.ref a5), .val (.int a6)]
abbrev lt33 (a0 : Addr) (a1 : Int32) (a2 : Slot) (a3 : Slot) (a4 : Slot) : Array Slot := #[.val (.ref a0), .val (.int a1), a2, a3, a4]
theorem d24_0 : decode prog_7_method_19_code 0 = .ok (.aload_n 0, 1) := by decide +kernel
theorem d24_1 : decode prog_7_method_19_code 1 = .ok (.getfield 119, 3) := by decide +kernel
theorem d24_4 : decode prog_7_method_19_code 4 = .ok (.iload_n 1, 1) := by decide +kernel
theorem d24_5 : decode prog_7_method_19_code 5 = .ok (.if_icmp .le 181, 3) := by decide +kernel
theorem d24_8 : decode prog_7_method_19_code 8 = .ok (.aload_n 0, 1) := by decide +kernel
theorem d24_9 : decode prog_7_method_19_code 9 = .ok (.getfield 66, 3) := by decide +kernel
theorem d24_12 : decode prog_7_method_19_code 12 = .ok (.aload_n 0, 1) := by decide +kernel
theorem d24_13 : decode prog_7_method_19_code 13 = .ok (.getfield 119, 3) := by decide +kernel
theorem d24_16 : decode prog_7_method_19_code 16 = .ok (.iconst 1, 1) := by decide +kernel
theorem d24_17 : decode prog_7_method_19_code 17 = .ok (.isub, 1) := by decide +kernel
theorem d24_18 : decode prog_7_method_19_code 18 = .ok (.iaload, 1) := by decide +kernel
theorem d24_19 : decode prog_7_method_19_code 19 = .ok (.istore_n 2, 1) := by decide +kernel
theorem d24_20 : decode prog_7_method_19_code 20 = .ok (.iload_n 2, 1) := by decide +kernel
theorem d24_21 : decode prog_7_method_19_code 21 = .ok (.ifCond .ge 54, 3) := by decide +kernel
theorem d24_24 : decode prog_7_method_19_code 24 = .ok (.iload_n 2, 1) := by decide +kernel
theorem d24_25 : decode prog_7_method_19_code 25 = .ok (.iconst (-1), 1) := by decide +kernel
theorem d24_26 : decode prog_7_method_19_code 26 = .ok (.ixor, 1) := by decide +kernel
theorem d24_27 : decode prog_7_method_19_code 27 = .ok (.istore_n 3, 1) := by decide +kernel
theorem d24_28 : decode prog_7_method_19_code 28 = .ok (.aload_n 0, 1) := by decide +kernel
theorem d24_29 : decode prog_7_method_19_code 29 = .ok (.getfield 69, 3) := by decide +kernel
theorem d24_32 : decode prog_7_method_19_code 32 = .ok (.iload_n 3, 1) := by decide +kernel
theorem d24_33 : decode prog_7_method_19_code 33 = .ok (.aload_n 0, 1) := by decide +kernel
theorem d24_34 : decode prog_7_method_19_code 34 = .ok (.getfield 66, 3) := by decide +kernel
theorem d24_37 : decode prog_7_method_19_code 37 = .ok (.aload_n 0, 1) := by decide +kernel
theorem d24_38 : decode prog_7_method_19_code 38 = .ok (.getfield 119, 3) := by decide +kernel
theorem d24_41 : decode prog_7_method_19_code 41 = .ok (.iconst 3, 1) := by decide +kernel
theorem d24_42 : decode prog_7_method_19_code 42 = .ok (.isub, 1) := by decide +kernel
theorem d24_43 : decode prog_7_method_19_code 43 = .ok (.iaload, 1) := by decide +kernel
theorem d24_44 : decode prog_7_method_19_code 44 = .ok (.iastore, 1) := by decide +kernel
theorem d24_45 : decode prog_7_method_19_code 45 = .ok (.aload_n 0, 1) := by decide +kernel
theorem d24_46 : decode prog_7_method_19_code 46 = .ok (.getfield 72, 3) := by decide +kernel
theorem d24_49 : decode prog_7_method_19_code 49 = .ok (.iload_n 3, 1) := by decide +kernel
theorem d24_50 : decode prog_7_method_19_code 50 = .ok (.aload_n 0, 1) := by decide +kernel
theorem d24_51 : decode prog_7_method_19_code 51 = .ok (.getfield 66, 3) := by decide +kernel
theorem d24_54 : decode prog_7_method_19_code 54 = .ok (.aload_n 0, 1) := by decide +kernel
theorem d24_55 : decode prog_7_method_19_code 55 = .ok (.getfield 119, 3) := by decide +kernel
theorem d24_58 : decode prog_7_method_19_code 58 = .ok (.iconst 2, 1) := by decide +kernel
theorem d24_59 : decode prog_7_method_19_code 59 = .ok (.isub, 1) := by decide +kernel
theorem d24_60 : decode prog_7_method_19_code 60 = .ok (.iaload, 1) := by decide +kernel
theorem d24_61 : decode prog_7_method_19_code 61 = .ok (.iastore, 1) := by decide +kernel
theorem d24_62 : decode prog_7_method_19_code 62 = .ok (.aload_n 0, 1) := by decide +kernel
theorem d24_63 : decode prog_7_method_19_code 63 = .ok (.dup, 1) := by decide +kernel
theorem d24_64 : decode prog_7_method_19_code 64 = .ok (.getfield 119, 3) := by decide +kernel
theorem d24_67 : decode prog_7_method_19_code 67 = .ok (.iconst 3, 1) := by decide +kernel
theorem d24_68 : decode prog_7_method_19_code 68 = .ok (.isub, 1) := by decide +kernel
theorem d24_69 : decode prog_7_method_19_code 69 = .ok (.putfield 119, 3) := by decide +kernel
theorem d24_72 : decode prog_7_method_19_code 72 = .ok (.goto (-72), 3) := by decide +kernel
theorem d24_75 : decode prog_7_method_19_code 75 = .ok (.aload_n 0, 1) := by decide +kernel
theorem d24_76 : decode prog_7_method_19_code 76 = .ok (.getfield 66, 3) := by decide +kernel
theorem d24_79 : decode prog_7_method_19_code 79 = .ok (.aload_n 0, 1) := by decide +kernel
theorem d24_80 : decode prog_7_method_19_code 80 = .ok (.getfield 119, 3) := by decide +kernel
theorem d24_83 : decode prog_7_method_19_code 83 = .ok (.iconst 2, 1) := by decide +kernel
theorem d24_84 : decode prog_7_method_19_code 84 = .ok (.isub, 1) := by decide +kernel
theorem d24_85 : decode prog_7_method_19_code 85 = .ok (.iaload, 1) := by decide +kernel
theorem d24_86 : decode prog_7_method_19_code 86 = .ok (.istore_n 3, 1) := by decide +kernel
theorem d24_87 : decode prog_7_method_19_code 87 = .ok (.iload_n 2, 1) := by decide +kernel
theorem d24_88 : decode prog_7_method_19_code 88 = .ok (.istore 4, 2) := by decide +kernel
theorem d24_90 : decode prog_7_method_19_code 90 = .ok (.aload_n 0, 1) := by decide +kernel
theorem d24_91 : decode prog_7_method_19_code 91 = .ok (.dup, 1) := by decide +kernel
theorem d24_92 : decode prog_7_method_19_code 92 = .ok (.getfield 119, 3) := by decide +kernel
theorem d24_95 : decode prog_7_method_19_code 95 = .ok (.iconst 2, 1) := by decide +kernel
theorem d24_96 : decode prog_7_method_19_code 96 = .ok (.isub, 1) := by decide +kernel
theorem d24_97 : decode prog_7_method_19_code 97 = .ok (.putfield 119, 3) := by decide +kernel
theorem d24_100 : decode prog_7_method_19_code 100 = .ok (.aload_n 0, 1) := by decide +kernel
theorem d24_101 : decode prog_7_method_19_code 101 = .ok (.iconst 0, 1) := by decide +kernel
theorem d24_102 : decode prog_7_method_19_code 102 = .ok (.putfield 115, 3) := by decide +kernel
theorem d24_105 : decode prog_7_method_19_code 105 = .ok (.aload_n 0, 1) := by decide +kernel
theorem d24_106 : decode prog_7_method_19_code 106 = .ok (.getfield 37, 3) := by decide +kernel
theorem d24_109 : decode prog_7_method_19_code 109 = .ok (.iload_n 3, 1) := by decide +kernel
theorem d24_110 : decode prog_7_method_19_code 110 = .ok (.aaload, 1) := by decide +kernel
theorem d24_111 : decode prog_7_method_19_code 111 = .ok (.iload 4, 2) := by decide +kernel
theorem d24_113 : decode prog_7_method_19_code 113 = .ok (.baload, 1) := by decide +kernel
theorem d24_114 : decode prog_7_method_19_code 114 = .ok (.iconst 1, 1) := by decide +kernel
theorem d24_115 : decode prog_7_method_19_code 115 = .ok (.if_icmp .ne 27, 3) := by decide +kernel
theorem d24_118 : decode prog_7_method_19_code 118 = .ok (.aload_n 0, 1) := by decide +kernel
theorem d24_119 : decode prog_7_method_19_code 119 = .ok (.getfield 40, 3) := by decide +kernel
theorem d24_122 : decode prog_7_method_19_code 122 = .ok (.iload_n 3, 1) := by decide +kernel
theorem d24_123 : decode prog_7_method_19_code 123 = .ok (.dup2, 1) := by decide +kernel
theorem d24_124 : decode prog_7_method_19_code 124 = .ok (.iaload, 1) := by decide +kernel
theorem d24_125 : decode prog_7_method_19_code 125 = .ok (.iconst 1, 1) := by decide +kernel
theorem d24_126 : decode prog_7_method_19_code 126 = .ok (.isub, 1) := by decide +kernel
theorem d24_127 : decode prog_7_method_19_code 127 = .ok (.iastore, 1) := by decide +kernel
theorem d24_128 : decode prog_7_method_19_code 128 = .ok (.aload_n 0, 1) := by decide +kernel
theorem d24_129 : decode prog_7_method_19_code 129 = .ok (.getfield 40, 3) := by decide +kernel
theorem d24_132 : decode prog_7_method_19_code 132 = .ok (.iload 4, 2) := by decide +kernel
theorem d24_134 : decode prog_7_method_19_code 134 = .ok (.dup2, 1) := by decide +kernel
theorem d24_135 : decode prog_7_method_19_code 135 = .ok (.iaload, 1) := by decide +kernel
theorem d24_136 : decode prog_7_method_19_code 136 = .ok (.iconst 1, 1) := by decide +kernel
theorem d24_137 : decode prog_7_method_19_code 137 = .ok (.isub, 1) := by decide +kernel
theorem d24_138 : decode prog_7_method_19_code 138 = .ok (.iastore, 1) := by decide +kernel
theorem d24_139 : decode prog_7_method_19_code 139 = .ok (.goto 24, 3) := by decide +kernel
theorem d24_163 : decode prog_7_method_19_code 163 = .ok (.aload_n 0, 1) := by decide +kernel
theorem d24_164 : decode prog_7_method_19_code 164 = .ok (.getfield 37, 3) := by decide +kernel
theorem d24_167 : decode prog_7_method_19_code 167 = .ok (.iload_n 3, 1) := by decide +kernel
theorem d24_168 : decode prog_7_method_19_code 168 = .ok (.aaload, 1) := by decide +kernel
theorem d24_169 : decode prog_7_method_19_code 169 = .ok (.iload 4, 2) := by decide +kernel
theorem d24_171 : decode prog_7_method_19_code 171 = .ok (.iconst 0, 1) := by decide +kernel
theorem d24_172 : decode prog_7_method_19_code 172 = .ok (.bastore, 1) := by decide +kernel
theorem d24_173 : decode prog_7_method_19_code 173 = .ok (.aload_n 0, 1) := by decide +kernel
theorem d24_174 : decode prog_7_method_19_code 174 = .ok (.getfield 37, 3) := by decide +kernel
theorem d24_177 : decode prog_7_method_19_code 177 = .ok (.iload 4, 2) := by decide +kernel
theorem d24_179 : decode prog_7_method_19_code 179 = .ok (.aaload, 1) := by decide +kernel
theorem d24_180 : decode prog_7_method_19_code 180 = .ok (.iload_n 3, 1) := by decide +kernel
theorem d24_181 : decode prog_7_method_19_code 181 = .ok (.iconst 0, 1) := by decide +kernel
theorem d24_182 : decode prog_7_method_19_code 182 = .ok (.bastore, 1) := by decide +kernel
theorem d24_183 : decode prog_7_method_19_code 183 = .ok (.goto (-183), 3) := by decide +kernel
theorem d24_142 : decode prog_7_method_19_code 142 = .ok (.aload_n 0, 1) := by decide +kernel
theorem d24_143 : decode prog_7_method_19_code 143 = .ok (.getfield 43, 3) := by decide +kernel
theorem d24_146 : decode prog_7_method_19_code 146 = .ok (.iload_n 3, 1) := by decide +kernel
theorem d24_147 : decode prog_7_method_19_code 147 = .ok (.dup2, 1) := by decide +kernel
theorem d24_148 : decode prog_7_method_19_code 148 = .ok (.iaload, 1) := by decide +kernel
theorem d24_149 : decode prog_7_method_19_code 149 = .ok (.iconst 1, 1) := by decide +kernel
theorem d24_150 : decode prog_7_method_19_code 150 = .ok (.iadd, 1) := by decide +kernel
theorem d24_151 : decode prog_7_method_19_code 151 = .ok (.iastore, 1) := by decide +kernel
theorem d24_152 : decode prog_7_method_19_code 152 = .ok (.aload_n 0, 1) := by decide +kernel
theorem d24_153 : decode prog_7_method_19_code 153 = .ok (.getfield 43, 3) := by decide +kernel
theorem d24_156 : decode prog_7_method_19_code 156 = .ok (.iload 4, 2) := by decide +kernel
theorem d24_158 : decode prog_7_method_19_code 158 = .ok (.dup2, 1) := by decide +kernel
theorem d24_159 : decode prog_7_method_19_code 159 = .ok (.iaload, 1) := by decide +kernel
theorem d24_160 : decode prog_7_method_19_code 160 = .ok (.iconst 1, 1) := by decide +kernel
theorem d24_161 : decode prog_7_method_19_code 161 = .ok (.iadd, 1) := by decide +kernel
theorem d24_162 : decode prog_7_method_19_code 162 = .ok (.iastore, 1) := by decide +kernel
theorem d24_186 : decode prog_7_method_19_code 186 = .ok (.return_, 1) := by decide +kernel
abbrev Y50 : MethodName := (⟨"com/example/onetree/onetree/EdgeStates", "undo", "(I)V"⟩ : MethodName)
abbrev lt34 (a0 : Int32) (a1 : Slot) (a2 : Slot) (a3 : Slot) (a4 : Slot) (a5 : Addr) (a6 : Slot) : Array Slot := #[.val (.int a0), a1, a2, a3, a4, .val (.ref a5), a6]
abbrev lt35 (a0 : Slot) (a1 : Slot) (a2 : Slot) (a3 : Slot) (a4 : Slot) (a5 : Addr) (a6 : Slot) : Array Slot := #[a0, a1, a2, a3, a4, .val (.ref a5), a6]
theorem d9_0 : decode prog_7_method_15_code 0 = .ok (.aload_n 0, 1) := by decide +kernel
theorem d9_1 : decode prog_7_method_15_code 1 = .ok (.getfield 82, 3) := by decide +kernel
theorem d9_4 : decode prog_7_method_15_code 4 = .ok (.iload_n 1, 1) := by decide +kernel
theorem d9_5 : decode prog_7_method_15_code 5 = .ok (.iaload, 1) := by decide +kernel
theorem d9_6 : decode prog_7_method_15_code 6 = .ok (.ireturn, 1) := by decide +kernel
abbrev Y53 : MethodName := (⟨"com/example/onetree/onetree/EdgeStates", "firstNeighbour", "(I)I"⟩ : MethodName)
theorem pd_12 : parseMethodDescriptor "(I)I" = some ⟨[.int], some .int⟩ := by decide +kernel
theorem d10_0 : decode prog_7_method_16_code 0 = .ok (.aload_n 0, 1) := by decide +kernel
theorem d10_1 : decode prog_7_method_16_code 1 = .ok (.getfield 82, 3) := by decide +kernel
theorem d10_4 : decode prog_7_method_16_code 4 = .ok (.iload_n 1, 1) := by decide +kernel
theorem d10_5 : decode prog_7_method_16_code 5 = .ok (.iconst 1, 1) := by decide +kernel
theorem d10_6 : decode prog_7_method_16_code 6 = .ok (.iadd, 1) := by decide +kernel
theorem d10_7 : decode prog_7_method_16_code 7 = .ok (.iaload, 1) := by decide +kernel
theorem d10_8 : decode prog_7_method_16_code 8 = .ok (.ireturn, 1) := by decide +kernel
abbrev Y54 : MethodName := (⟨"com/example/onetree/onetree/EdgeStates", "endOfNeighbours", "(I)I"⟩ : MethodName)
theorem d11_0 : decode method_5_code 0 = .ok (.iconst 3, 1) := by decide +kernel
theorem d11_1 : decode method_5_code 1 = .ok (.newarray .int, 2) := by decide +kernel
theorem d11_3 : decode method_5_code 3 = .ok (.astore_n 2, 1) := by decide +kernel
abbrev lt36 (a0 : Addr) (a1 : Int32) (a2 : Addr) : Array Slot := #[.val (.ref a0), .val (.int a1), .val (.ref a2), .unset, .unset]
theorem d11_4 : decode method_5_code 4 = .ok (.iconst 0, 1) := by decide +kernel
theorem d11_5 : decode method_5_code 5 = .ok (.istore_n 3, 1) := by decide +kernel
abbrev lt37 (a0 : Addr) (a1 : Int32) (a2 : Addr) (a3 : Int32) : Array Slot := #[.val (.ref a0), .val (.int a1), .val (.ref a2), .val (.int a3), .unset]
theorem d11_6 : decode method_5_code 6 = .ok (.aload_n 2, 1) := by decide +kernel
theorem d11_7 : decode method_5_code 7 = .ok (.iload_n 3, 1) := by decide +kernel
theorem d11_8 : decode method_5_code 8 = .ok (.aload_n 0, 1) := by decide +kernel
theorem d11_9 : decode method_5_code 9 = .ok (.iload_n 1, 1) := by decide +kernel
theorem d11_10 : decode method_5_code 10 = .ok (.iconst 0, 1) := by decide +kernel
theorem d11_11 : decode method_5_code 11 = .ok (.invokestatic 51, 3) := by decide +kernel
theorem d12_0 : decode method_4_code 0 = .ok (.iload 4, 2) := by decide +kernel
abbrev lt38 (a0 : Addr) (a1 : Int32) (a2 : Addr) (a3 : Int32) (a4 : Int32) : Array Slot := #[.val (.ref a0), .val (.int a1), .val (.ref a2), .val (.int a3), .val (.int a4)]
theorem d12_2 : decode method_4_code 2 = .ok (.iload_n 3, 1) := by decide +kernel
theorem d12_3 : decode method_4_code 3 = .ok (.if_icmp .eq 23, 3) := by decide +kernel
theorem d12_26 : decode method_4_code 26 = .ok (.iload_n 1, 1) := by decide +kernel
theorem d12_27 : decode method_4_code 27 = .ok (.ireturn, 1) := by decide +kernel
theorem d12_6 : decode method_4_code 6 = .ok (.aload_n 2, 1) := by decide +kernel
theorem d12_7 : decode method_4_code 7 = .ok (.iload_n 3, 1) := by decide +kernel
theorem d12_8 : decode method_4_code 8 = .ok (.iload 4, 2) := by decide +kernel
theorem d12_10 : decode method_4_code 10 = .ok (.invokevirtual 47, 3) := by decide +kernel
theorem d13_0 : decode prog_7_method_4_code 0 = .ok (.aload_n 0, 1) := by decide +kernel
theorem d13_1 : decode prog_7_method_4_code 1 = .ok (.getfield 37, 3) := by decide +kernel
theorem d13_4 : decode prog_7_method_4_code 4 = .ok (.iload_n 1, 1) := by decide +kernel
theorem d13_5 : decode prog_7_method_4_code 5 = .ok (.aaload, 1) := by decide +kernel
theorem d13_6 : decode prog_7_method_4_code 6 = .ok (.iload_n 2, 1) := by decide +kernel
theorem d13_7 : decode prog_7_method_4_code 7 = .ok (.baload, 1) := by decide +kernel
theorem d13_8 : decode prog_7_method_4_code 8 = .ok (.ireturn, 1) := by decide +kernel
abbrev Y58 : MethodName := (⟨"com/example/onetree/onetree/EdgeStates", "state", "(II)B"⟩ : MethodName)
theorem pd_13 : parseMethodDescriptor "(II)B" = some ⟨[.int, .int], some .byte⟩ := by decide +kernel
theorem d12_13 : decode method_4_code 13 = .ok (.iconst 2, 1) := by decide +kernel
theorem d12_14 : decode method_4_code 14 = .ok (.if_icmp .eq 12, 3) := by decide +kernel
theorem d12_17 : decode method_4_code 17 = .ok (.aload_n 0, 1) := by decide +kernel
theorem d12_18 : decode method_4_code 18 = .ok (.iload_n 1, 1) := by decide +kernel
theorem d12_19 : decode method_4_code 19 = .ok (.iload 4, 2) := by decide +kernel
theorem d12_21 : decode method_4_code 21 = .ok (.iastore, 1) := by decide +kernel
theorem d12_22 : decode method_4_code 22 = .ok (.iload_n 1, 1) := by decide +kernel
theorem d12_23 : decode method_4_code 23 = .ok (.iconst 1, 1) := by decide +kernel
theorem d12_24 : decode method_4_code 24 = .ok (.iadd, 1) := by decide +kernel
theorem d12_25 : decode method_4_code 25 = .ok (.ireturn, 1) := by decide +kernel
abbrev Y59 : MethodName := (⟨"com/example/onetree/onetree/EdgeStatesListNeighboursPinLaw", "add", "([IILcom/example/onetree/onetree/EdgeStates;II)I"⟩ : MethodName)
theorem pd_14 : parseMethodDescriptor "([IILcom/example/onetree/onetree/EdgeStates;II)I" = some ⟨[(.array .int), .int, (.object "com/example/onetree/onetree/EdgeStates"), .int, .int], some .int⟩ := by decide +kernel
theorem d11_14 : decode method_5_code 14 = .ok (.istore_n 3, 1) := by decide +kernel
theorem d11_15 : decode method_5_code 15 = .ok (.aload_n 2, 1) := by decide +kernel
theorem d11_16 : decode method_5_code 16 = .ok (.iload_n 3, 1) := by decide +kernel
theorem d11_17 : decode method_5_code 17 = .ok (.aload_n 0, 1) := by decide +kernel
theorem d11_18 : decode method_5_code 18 = .ok (.iload_n 1, 1) := by decide +kernel
theorem d11_19 : decode method_5_code 19 = .ok (.iconst 1, 1) := by decide +kernel
theorem d11_20 : decode method_5_code 20 = .ok (.invokestatic 51, 3) := by decide +kernel
theorem d11_23 : decode method_5_code 23 = .ok (.istore_n 3, 1) := by decide +kernel
theorem d11_24 : decode method_5_code 24 = .ok (.aload_n 2, 1) := by decide +kernel
theorem d11_25 : decode method_5_code 25 = .ok (.iload_n 3, 1) := by decide +kernel
theorem d11_26 : decode method_5_code 26 = .ok (.aload_n 0, 1) := by decide +kernel
theorem d11_27 : decode method_5_code 27 = .ok (.iload_n 1, 1) := by decide +kernel
theorem d11_28 : decode method_5_code 28 = .ok (.iconst 2, 1) := by decide +kernel
theorem d11_29 : decode method_5_code 29 = .ok (.invokestatic 51, 3) := by decide +kernel
theorem d11_32 : decode method_5_code 32 = .ok (.istore_n 3, 1) := by decide +kernel
theorem d11_33 : decode method_5_code 33 = .ok (.aload_n 2, 1) := by decide +kernel
theorem d11_34 : decode method_5_code 34 = .ok (.iload_n 3, 1) := by decide +kernel
theorem d11_35 : decode method_5_code 35 = .ok (.aload_n 0, 1) := by decide +kernel
theorem d11_36 : decode method_5_code 36 = .ok (.iload_n 1, 1) := by decide +kernel
theorem d11_37 : decode method_5_code 37 = .ok (.iconst 3, 1) := by decide +kernel
theorem d11_38 : decode method_5_code 38 = .ok (.invokestatic 51, 3) := by decide +kernel
theorem d11_41 : decode method_5_code 41 = .ok (.istore_n 3, 1) := by decide +kernel
theorem d11_42 : decode method_5_code 42 = .ok (.aload_n 0, 1) := by decide +kernel
theorem d11_43 : decode method_5_code 43 = .ok (.iload_n 1, 1) := by decide +kernel
theorem d11_44 : decode method_5_code 44 = .ok (.invokevirtual 28, 3) := by decide +kernel
theorem d11_47 : decode method_5_code 47 = .ok (.istore 4, 2) := by decide +kernel
theorem d11_49 : decode method_5_code 49 = .ok (.aload_n 0, 1) := by decide +kernel
theorem d11_50 : decode method_5_code 50 = .ok (.iload_n 1, 1) := by decide +kernel
theorem d11_51 : decode method_5_code 51 = .ok (.invokevirtual 32, 3) := by decide +kernel
theorem d11_54 : decode method_5_code 54 = .ok (.iload 4, 2) := by decide +kernel
theorem d11_56 : decode method_5_code 56 = .ok (.isub, 1) := by decide +kernel
theorem d11_57 : decode method_5_code 57 = .ok (.iload_n 3, 1) := by decide +kernel
theorem d11_58 : decode method_5_code 58 = .ok (.if_icmp .eq 5, 3) := by decide +kernel
theorem d11_63 : decode method_5_code 63 = .ok (.iload_n 3, 1) := by decide +kernel
theorem d11_64 : decode method_5_code 64 = .ok (.iconst 1, 1) := by decide +kernel
theorem d11_65 : decode method_5_code 65 = .ok (.if_icmp .lt 15, 3) := by decide +kernel
theorem d11_80 : decode method_5_code 80 = .ok (.iload_n 3, 1) := by decide +kernel
theorem d11_81 : decode method_5_code 81 = .ok (.iconst 2, 1) := by decide +kernel
theorem d11_82 : decode method_5_code 82 = .ok (.if_icmp .lt 17, 3) := by decide +kernel
theorem d11_99 : decode method_5_code 99 = .ok (.iload_n 3, 1) := by decide +kernel
theorem d11_100 : decode method_5_code 100 = .ok (.iconst 3, 1) := by decide +kernel
theorem d11_101 : decode method_5_code 101 = .ok (.if_icmp .lt 17, 3) := by decide +kernel
theorem d11_118 : decode method_5_code 118 = .ok (.iconst 1, 1) := by decide +kernel
theorem d11_119 : decode method_5_code 119 = .ok (.goto 4, 3) := by decide +kernel
theorem d11_123 : decode method_5_code 123 = .ok (.ireturn, 1) := by decide +kernel
theorem d11_104 : decode method_5_code 104 = .ok (.aload_n 0, 1) := by decide +kernel
theorem d11_105 : decode method_5_code 105 = .ok (.iload 4, 2) := by decide +kernel
theorem d11_107 : decode method_5_code 107 = .ok (.iconst 2, 1) := by decide +kernel
theorem d11_108 : decode method_5_code 108 = .ok (.iadd, 1) := by decide +kernel
theorem d11_109 : decode method_5_code 109 = .ok (.invokevirtual 55, 3) := by decide +kernel
theorem d14_0 : decode prog_7_method_17_code 0 = .ok (.aload_n 0, 1) := by decide +kernel
theorem d14_1 : decode prog_7_method_17_code 1 = .ok (.getfield 85, 3) := by decide +kernel
theorem d14_4 : decode prog_7_method_17_code 4 = .ok (.iload_n 1, 1) := by decide +kernel
theorem d14_5 : decode prog_7_method_17_code 5 = .ok (.iaload, 1) := by decide +kernel
theorem d14_6 : decode prog_7_method_17_code 6 = .ok (.ireturn, 1) := by decide +kernel
abbrev Y60 : MethodName := (⟨"com/example/onetree/onetree/EdgeStates", "neighbour", "(I)I"⟩ : MethodName)
theorem d11_112 : decode method_5_code 112 = .ok (.aload_n 2, 1) := by decide +kernel
theorem d11_113 : decode method_5_code 113 = .ok (.iconst 2, 1) := by decide +kernel
theorem d11_114 : decode method_5_code 114 = .ok (.iaload, 1) := by decide +kernel
theorem d11_115 : decode method_5_code 115 = .ok (.if_icmp .ne 7, 3) := by decide +kernel
theorem d11_122 : decode method_5_code 122 = .ok (.iconst 0, 1) := by decide +kernel
theorem d11_85 : decode method_5_code 85 = .ok (.aload_n 0, 1) := by decide +kernel
theorem d11_86 : decode method_5_code 86 = .ok (.iload 4, 2) := by decide +kernel
theorem d11_88 : decode method_5_code 88 = .ok (.iconst 1, 1) := by decide +kernel
theorem d11_89 : decode method_5_code 89 = .ok (.iadd, 1) := by decide +kernel
theorem d11_90 : decode method_5_code 90 = .ok (.invokevirtual 55, 3) := by decide +kernel
theorem d11_93 : decode method_5_code 93 = .ok (.aload_n 2, 1) := by decide +kernel
theorem d11_94 : decode method_5_code 94 = .ok (.iconst 1, 1) := by decide +kernel
theorem d11_95 : decode method_5_code 95 = .ok (.iaload, 1) := by decide +kernel
theorem d11_96 : decode method_5_code 96 = .ok (.if_icmp .ne 26, 3) := by decide +kernel
theorem d11_68 : decode method_5_code 68 = .ok (.aload_n 0, 1) := by decide +kernel
theorem d11_69 : decode method_5_code 69 = .ok (.iload 4, 2) := by decide +kernel
theorem d11_71 : decode method_5_code 71 = .ok (.invokevirtual 55, 3) := by decide +kernel
theorem d11_74 : decode method_5_code 74 = .ok (.aload_n 2, 1) := by decide +kernel
theorem d11_75 : decode method_5_code 75 = .ok (.iconst 0, 1) := by decide +kernel
theorem d11_76 : decode method_5_code 76 = .ok (.iaload, 1) := by decide +kernel
theorem d11_77 : decode method_5_code 77 = .ok (.if_icmp .ne 45, 3) := by decide +kernel
theorem d11_61 : decode method_5_code 61 = .ok (.iconst 0, 1) := by decide +kernel
theorem d11_62 : decode method_5_code 62 = .ok (.ireturn, 1) := by decide +kernel
abbrev Y61 : MethodName := (⟨"com/example/onetree/onetree/EdgeStatesListNeighboursPinLaw", "city", "(Lcom/example/onetree/onetree/EdgeStates;I)Z"⟩ : MethodName)
theorem pd_15 : parseMethodDescriptor "(Lcom/example/onetree/onetree/EdgeStates;I)Z" = some ⟨[(.object "com/example/onetree/onetree/EdgeStates"), .int], some .boolean⟩ := by decide +kernel

/-! an EdgeStates object as a list of rows of ints, its arrays by their rows' numbers (own): 0 forcedDegree, 1 openDegree, 2 otherEnd, 3 pathSize, 4 pending, 5 isPending, 6 trail, 7 listStart, 8 neighbours, 9 trailSize, 10 listed, 11 pendingHead, 12 pendingCount, 13 an array of the law's own, 14 + a: the states of city a. What is reckoned here is reckoned over Nat where it can be: the kernel is to run it. -/
abbrev MM := List (List Int32)
def getN {α : Type} (d : α) (n : Nat) : List α → α := Nat.rec (motive := fun _ => List α → α) (fun l => match l with | [] => d | a :: _ => a) (fun _ ih l => match l with | [] => d | _ :: t => ih t) n
def setN {α : Type} (v : α) (n : Nat) : List α → List α := Nat.rec (motive := fun _ => List α → List α) (fun l => match l with | [] => [] | _ :: t => v :: t) (fun _ ih l => match l with | [] => [] | a :: t => a :: ih t) n
theorem getN_eq {α : Type} (d : α) : ∀ (n : Nat) (l : List α), getN d n l = l.getD n d
  | 0, [] => rfl
  | 0, _ :: _ => rfl
  | _ + 1, [] => rfl
  | n + 1, _ :: t => getN_eq d n t
theorem setN_eq {α : Type} (v : α) : ∀ (n : Nat) (l : List α), setN v n l = l.set n v
  | 0, [] => rfl
  | 0, _ :: _ => rfl
  | _ + 1, [] => rfl
  | n + 1, a :: t => congrArg (a :: ·) (setN_eq v n t)
def ix (j : Int32) : Nat := j.toBitVec.toNat
def ld (M : MM) (r j : Nat) : Int32 := getN 0 j (getN [] r M)
def sto (M : MM) (r j : Nat) (v : Int32) : MM := setN (setN v j (getN [] r M)) r M
theorem ld_eq (M : MM) (r j : Nat) : ld M r j = (M.getD r []).getD j 0 := by unfold ld; rw [getN_eq, getN_eq]
theorem sto_eq (M : MM) (r j : Nat) (v : Int32) : sto M r j v = M.set r ((M.getD r []).set j v) := by unfold sto; rw [getN_eq, setN_eq, setN_eq]
def gd {α : Type} (b : Bool) (o : Option α) : Option α := match b with | true => o | false => none
def cnd {α : Type} (b : Bool) (o u : Option α) : Option α := match b with | true => o | false => u
def bnd {α β : Type} (o : Option (β × MM)) (k : β → MM → Option α) : Option α := match o with | none => none | some (v, m) => k v m
def inr (j : Int32) (n : Nat) : Bool := Nat.blt j.toBitVec.toNat n
def eqB (a b : Int32) : Bool := Nat.beq a.toBitVec.toNat b.toBitVec.toNat
def ltB (a b : Int32) : Bool := Nat.blt ((a.toBitVec.toNat + 2147483648) % 4294967296) ((b.toBitVec.toNat + 2147483648) % 4294967296)
theorem own_nat32 (a : Int32) : a.toInt = (((a.toBitVec.toNat + 2147483648) % 4294967296 : Nat) : Int) - 2147483648 := by
  have h := BitVec.toInt_eq_toNat_cond a.toBitVec
  have e : a.toBitVec.toInt = a.toInt := rfl
  have l : a.toBitVec.toNat < 4294967296 := a.toBitVec.isLt
  rw [e] at h
  split at h <;> omega
theorem own_eqT {α : Type} {a b : Int32} {o u : Option α} (h : a = b) : cnd (eqB a b) o u = o := by
  subst h; rw [show eqB a a = true from Nat.beq_refl _]; rfl
theorem own_eqF {α : Type} {a b : Int32} {o u : Option α} (h : ¬ a = b) : cnd (eqB a b) o u = u := by
  have : eqB a b = false := by
    rcases Bool.eq_false_or_eq_true (eqB a b) with q | q
    · exact absurd (Int32.toBitVec_inj.mp (BitVec.eq_of_toNat_eq (Nat.eq_of_beq_eq_true q))) h
    · exact q
  rw [this]; rfl
theorem own_ltT {α : Type} {a b : Int32} {o u : Option α} (h : a < b) : cnd (ltB a b) o u = o := by
  have : ltB a b = true := by
    rw [Int32.lt_iff_toInt_lt, own_nat32 a, own_nat32 b] at h
    exact Nat.ble_eq_true_of_le (by omega)
  rw [this]; rfl
theorem own_ltF {α : Type} {a b : Int32} {o u : Option α} (h : ¬ a < b) : cnd (ltB a b) o u = u := by
  have : ltB a b = false := by
    rcases Bool.eq_false_or_eq_true (ltB a b) with q | q
    · have := Nat.le_of_ble_eq_true q
      exact absurd (Int32.lt_iff_toInt_lt.mpr (by rw [own_nat32 a, own_nat32 b]; omega)) h
    · exact q
  rw [this]; rfl
theorem own_gd {α : Type} {b : Bool} {o : Option α} {z : α} (h : gd b o = some z) : b = true ∧ o = some z := by
  cases b with
  | true => exact ⟨rfl, h⟩
  | false => cases h
theorem own_bnd {α β : Type} {o : Option (β × MM)} {k : β → MM → Option α} {z : α} (h : bnd o k = some z) : ∃ v m, o = some (v, m) ∧ k v m = some z := by
  cases o with
  | none => cases h
  | some p => exact ⟨p.1, p.2, rfl, h⟩
def nam {α : Type} (M : MM) (k : MM → Option α) : Option α := k M
def nai {α : Type} (v : Int32) (k : Int32 → Option α) : Option α := k v
theorem own_nam {α : Type} {M : MM} {k : MM → Option α} {z : α} (h : nam M k = some z) : ∃ M', M' = M ∧ k M' = some z := ⟨M, rfl, h⟩
theorem own_nai {α : Type} {v : Int32} {k : Int32 → Option α} {z : α} (h : nai v k = some z) : ∃ v', v' = v ∧ k v' = some z := ⟨v, rfl, h⟩
theorem own_ret {a b : Int32} {m n : MM} (h : some (a, m) = some (b, n)) : a = b ∧ m = n := by cases h; exact ⟨rfl, rfl⟩
theorem own_inr {j : Int32} {n : Nat} (h : inr j n = true) (hn : n ≤ 1000000) : ¬ j < 0 ∧ j.toNatClampNeg < n ∧ j.toNatClampNeg = ix j := by
  have h : j.toBitVec.toNat + 1 ≤ n := Nat.le_of_ble_eq_true h
  have e := own_nat32 j
  have z : (0 : Int32).toInt = 0 := rfl
  have q : j.toInt = (j.toBitVec.toNat : Int) := by omega
  refine ⟨fun g => ?_, ?_, ?_⟩
  · rw [Int32.lt_iff_toInt_lt] at g; omega
  · simp only [Int32.toNatClampNeg]; omega
  · simp only [Int32.toNatClampNeg, ix]; omega
theorem own_gset (M : MM) (r s : Nat) (L : List Int32) : (M.set r L).getD s [] = if s = r ∧ r < M.length then L else M.getD s [] := by
  simp only [List.getD_eq_getElem?_getD, List.getElem?_set]
  by_cases e : r = s
  · subst e
    by_cases q : r < M.length
    · simp [q]
    · simp [q]
  · have e' : ¬ s = r := fun z => e z.symm
    simp [e, e']
theorem own_gsetN {M : MM} {r s : Nat} {L : List Int32} (h : s ≠ r) : (M.set r L).getD s [] = M.getD s [] := by rw [own_gset, if_neg (fun z => h z.1)]
theorem own_lset (L : List Int32) (i j : Nat) (v : Int32) (hi : i < L.length) : (L.set i v).getD j 0 = if j = i then v else L.getD j 0 := by
  simp only [List.getD_eq_getElem?_getD, List.getElem?_set]
  by_cases e : i = j
  · subst e; simp [hi]
  · have e' : ¬ j = i := fun z => e z.symm
    simp [e, e']
abbrev EC : String := "com/example/onetree/onetree/EdgeStates"
def tyR (r : Nat) : FieldType := if r = 5 then .boolean else if r < 14 then .int else .byte
def lnR (nc : Nat) (r : Nat) : Nat := match r with | 6 => nc * (nc - 1) + 6 * nc | 7 => nc + 1 | 8 => nc * (nc - 1) | 13 => 3 | _ => nc
def isA (ex : Bool) (nc : Nat) (r : Nat) : Prop := r < 9 ∨ (r = 13 ∧ ex = true) ∨ (14 ≤ r ∧ r < 14 + nc)
def Ari (Z : State) (h : Heap) (a : Addr) (k : ClassId) (ty : FieldType) (n : Nat) (L : List Int32) : Prop := ∃ c : Cell, Arr Z h a c ty ∧ c.cls = k ∧ c.slots.size = n ∧ (∀ i, i < c.slots.size → c.slots[i]? = some (.int (L.getD i 0))) ∧ (∀ i, i < c.slots.size → fits ty (.int (L.getD i 0)) = true) ∧ L.length = c.slots.size
def frefs (A : Nat → Addr) (S0 : Addr) (nc : Nat) : List (String × String × Value) := [("cities", "I", .int (Int32.ofNat nc)), ("states", "[[B", .ref S0), ("forcedDegree", "[I", .ref (A 0)), ("openDegree", "[I", .ref (A 1)), ("otherEnd", "[I", .ref (A 2)), ("pathSize", "[I", .ref (A 3)), ("pending", "[I", .ref (A 4)), ("isPending", "[Z", .ref (A 5)), ("trail", "[I", .ref (A 6)), ("listStart", "[I", .ref (A 7)), ("neighbours", "[I", .ref (A 8))]
def scal : List (String × String × Nat) := [("trailSize", "I", 9), ("listed", "Z", 10), ("pendingHead", "I", 11), ("pendingCount", "I", 12)]
def nmsE : List (String × String) := [("cities", "I"), ("states", "[[B"), ("forcedDegree", "[I"), ("openDegree", "[I"), ("otherEnd", "[I"), ("pathSize", "[I"), ("pending", "[I"), ("isPending", "[Z"), ("trail", "[I"), ("listStart", "[I"), ("neighbours", "[I"), ("trailSize", "I"), ("listed", "Z"), ("pendingHead", "I"), ("pendingCount", "I")]
def SlotsOK (Z : State) : Prop := ∀ p ∈ nmsE, ∀ q ∈ nmsE, p.1 ≠ q.1 → Jvm.RoadKit.slotOf Z EC p.1 p.2 ≠ Jvm.RoadKit.slotOf Z EC q.1 q.2
def EB (Z : State) (n0 : Nat) (ex : Bool) (h : Heap) (x : Addr) (A : Nat → Addr) (K : Nat → ClassId) (S0 : Addr) (nc : Nat) (M : MM) : Prop :=
  Exa Z h x EC ∧ (∀ r, isA ex nc r → Ari Z h (A r) (K r) (tyR r) (lnR nc r) (M.getD r [])) ∧ (∀ p ∈ frefs A S0 nc, Fld Z h x EC p.1 p.2.1 p.2.2) ∧ (∀ p ∈ scal, Fld Z h x EC p.1 p.2.1 (.int (ld M p.2.2 0)) ∧ (M.getD p.2.2 []).length = 1) ∧
  (∃ c : Cell, Arr Z h S0 c (.array .byte) ∧ c.slots.size = nc ∧ ∀ i, i < c.slots.size → c.slots[i]? = some (.ref (A (14 + i)))) ∧ (∀ r s, isA ex nc r → isA ex nc s → A r = A s → r = s) ∧ (∀ r, isA ex nc r → A r ≠ x ∧ A r ≠ S0 ∧ n0 ≤ A r) ∧ n0 ≤ x ∧ S0 ≠ x ∧ 14 + nc ≤ M.length ∧ 0 < nc ∧ nc ≤ 100
section EB
variable {Z : State} {n0 : Nat} {ex : Bool} {h h' : Heap} {x : Addr} {A : Nat → Addr} {K : Nat → ClassId} {S0 : Addr} {nc : Nat} {M : MM} {v w : Int32} {sl : Nat} {j : Int32} {b : Addr} {ws : List Addr}
theorem own_lnR (hn : nc ≤ 100) (r : Nat) : lnR nc r ≤ 1000000 := by
  have h1 : nc * (nc - 1) ≤ 100 * 100 := Nat.mul_le_mul hn (by omega)
  unfold lnR
  split <;> omega
theorem own_lnS (k : Nat) : lnR nc (14 + k) = nc := by
  unfold lnR
  split <;> first | rfl | omega
theorem Ari.other {a : Addr} {k : ClassId} {ty : FieldType} {n : Nat} {L : List Int32} {u : Value} (F : Ari Z h b k ty n L) (W : Wr h h' a sl u) (q : b ≠ a) : Ari Z h' b k ty n L := by obtain ⟨c, A, r⟩ := F; exact ⟨c, A.other W q, r⟩
theorem Ari.ext {k : ClassId} {ty : FieldType} {n : Nat} {L : List Int32} (F : Ari Z h b k ty n L) (E : Ext h h') : Ari Z h' b k ty n L := by obtain ⟨c, A, r⟩ := F; exact ⟨c, A.ext E, r⟩
theorem Ari.set {k : ClassId} {ty : FieldType} {n : Nat} {L : List Int32} {i : Nat} (F : Ari Z h b k ty n L) (W : Wr h h' b i (.int v)) (hi : i < n) (hv : fits ty (.int v) = true) : Ari Z h' b k ty n (L.set i v) := by
  obtain ⟨c, A, r1, r2, H, G, r5⟩ := F
  refine ⟨_, A.same W, r1, by rw [sz_set]; exact r2, fun y hy => ?_, fun y hy => ?_, by rw [List.length_set, r5, sz_set]⟩
  · rw [sz_set] at hy
    rw [own_lset L i y v (by omega)]
    split
    · rename_i e; subst e; simp [Cell.setSlot, hy]
    · rename_i e; simp only [Cell.setSlot]; rw [Array.getElem?_setIfInBounds_ne (Ne.symm e)]; exact H y hy
  · rw [sz_set] at hy
    rw [own_lset L i y v (by omega)]
    split
    · exact hv
    · exact G y hy
theorem EB.exa (B : EB Z n0 ex h x A K S0 nc M) : Exa Z h x EC := B.1
theorem EB.fld (B : EB Z n0 ex h x A K S0 nc M) (i : Nat) {p : String × String × Value} (hp : (frefs A S0 nc)[i]? = some p) : Fld Z h x EC p.1 p.2.1 p.2.2 := B.2.2.1 p (List.mem_of_getElem? hp)
theorem EB.sca (B : EB Z n0 ex h x A K S0 nc M) (i : Nat) {p : String × String × Nat} (hp : scal[i]? = some p) : Fld Z h x EC p.1 p.2.1 (.int (ld M p.2.2 0)) := (B.2.2.2.1 p (List.mem_of_getElem? hp)).1
theorem EB.old (B : EB Z n0 ex h x A K S0 nc M) (r : Nat) (hr : isA ex nc r) : n0 ≤ A r := (B.2.2.2.2.2.2.1 r hr).2.2
theorem EB.oldx (B : EB Z n0 ex h x A K S0 nc M) : n0 ≤ x := B.2.2.2.2.2.2.2.1
theorem EB.ncs (B : EB Z n0 ex h x A K S0 nc M) : 0 < nc ∧ nc ≤ 100 := B.2.2.2.2.2.2.2.2.2.2
theorem EB.ncz (B : EB Z n0 ex h x A K S0 nc M) : ¬ Int32.ofNat nc = 0 := fun e => by
  have := B.ncs
  have e := congrArg (fun z : Int32 => z.toBitVec.toNat) e
  simp at e
  omega
theorem EB.isS (B : EB Z n0 ex h x A K S0 nc M) (g : inr j nc = true) : isA ex nc (14 + ix j) := by
  have := B.ncs
  have g : j.toBitVec.toNat + 1 ≤ nc := Nat.le_of_ble_eq_true g
  refine Or.inr (Or.inr ⟨by omega, ?_⟩)
  simp only [ix]; omega
theorem EB.get (B : EB Z n0 ex h x A K S0 nc M) (r : Nat) (hr : isA ex nc r) (g : inr j (lnR nc r) = true) (e : v = ld M r (ix j)) : ∃ c : Cell, Arr Z h (A r) c (tyR r) ∧ ¬ (j < 0 ∨ c.slots.size ≤ j.toNatClampNeg) ∧ c.slots[j.toNatClampNeg]? = some (.int v) := by
  obtain ⟨c, R, -, r2, H, -, -⟩ := B.2.1 r hr
  obtain ⟨q1, q2, q3⟩ := own_inr g (own_lnR B.ncs.2 r)
  refine ⟨c, R, fun z => z.elim q1 fun y => by omega, ?_⟩
  rw [H _ (by omega), e, ld_eq, q3]
theorem EB.at (B : EB Z n0 ex h x A K S0 nc M) (r : Nat) (hr : isA ex nc r) (g : inr j (lnR nc r) = true) : ∃ c : Cell, Arr Z h (A r) c (tyR r) ∧ ¬ (j < 0 ∨ c.slots.size ≤ j.toNatClampNeg) := by
  obtain ⟨c, R, q, -⟩ := B.get r hr g rfl
  exact ⟨c, R, q⟩
theorem EB.getS (B : EB Z n0 ex h x A K S0 nc M) (g : inr j nc = true) : ∃ c : Cell, Arr Z h S0 c (.array .byte) ∧ ¬ (j < 0 ∨ c.slots.size ≤ j.toNatClampNeg) ∧ c.slots[j.toNatClampNeg]? = some (.ref (A (14 + ix j))) := by
  obtain ⟨c, R, r2, H⟩ := B.2.2.2.2.1
  obtain ⟨q1, q2, q3⟩ := own_inr g (by have := B.ncs; omega)
  refine ⟨c, R, fun z => z.elim q1 fun y => by omega, ?_⟩
  rw [H _ (by omega), q3]
theorem EB.ext (B : EB Z n0 ex h x A K S0 nc M) (E : Ext h h') : EB Z n0 ex h' x A K S0 nc M := by
  obtain ⟨b1, b2, b3, b4, ⟨c, c1, c2, c3⟩, r⟩ := B
  exact ⟨b1.ext E, fun r hr => (b2 r hr).ext E, fun p hp => (b3 p hp).ext E, fun p hp => ⟨(b4 p hp).1.ext E, (b4 p hp).2⟩, ⟨c, c1.ext E, c2, c3⟩, r⟩
theorem own_isn {r : Nat} (hr : isA ex nc r) (hl : 14 + nc ≤ M.length) : r < M.length ∧ ∀ p ∈ scal, p.2.2 ≠ r := by
  refine ⟨by rcases hr with q | ⟨q, -⟩ | ⟨q1, q2⟩ <;> omega, fun p hp e => ?_⟩
  have key : ∀ p ∈ scal, 9 ≤ p.2.2 ∧ p.2.2 < 13 := by decide +kernel
  have := key p hp
  rcases hr with q | ⟨q, -⟩ | ⟨q1, q2⟩ <;> omega
theorem EB.wr (B : EB Z n0 ex h x A K S0 nc M) (r : Nat) (hr : isA ex nc r) (g : inr j (lnR nc r) = true) (W : Wr h h' (A r) j.toNatClampNeg (.int v)) (hv : fits (tyR r) (.int v) = true) : EB Z n0 ex h' x A K S0 nc (sto M r (ix j) v) := by
  obtain ⟨q1, q2, q3⟩ := own_inr g (own_lnR B.ncs.2 r)
  rw [q3] at W q2
  obtain ⟨b1, b2, b3, b4, ⟨c, c1, c2, c3⟩, b6, b7, b8, b9, b10, b11⟩ := B
  obtain ⟨hrl, hr9⟩ := own_isn hr b10
  rw [sto_eq]
  refine ⟨b1.wr W, fun s hs => ?_, fun p hp => (b3 p hp).other W (Or.inl (b7 r hr).1.symm), fun p hp => ?_, ⟨c, c1.other W (b7 r hr).2.1.symm, c2, c3⟩, b6, b7, b8, b9, by rw [List.length_set]; exact b10, b11⟩
  · by_cases e : s = r
    · subst e
      rw [own_gset, if_pos ⟨rfl, hrl⟩]
      exact (b2 s hs).set W q2 hv
    · rw [own_gsetN e]
      exact (b2 s hs).other W fun z => e (b6 s r hs hr z)
  · rw [ld_eq, own_gsetN (hr9 p hp), ← ld_eq]
    exact ⟨(b4 p hp).1.other W (Or.inl (b7 r hr).1.symm), (b4 p hp).2⟩
theorem own_S {a b c d : String} (S : SlotsOK Z) (h1 : (a, b) ∈ nmsE) (h2 : (c, d) ∈ nmsE) (hn : a ≠ c) : Jvm.RoadKit.slotOf Z EC a b ≠ Jvm.RoadKit.slotOf Z EC c d := S (a, b) h1 (c, d) h2 hn
theorem EB.put (B : EB Z n0 ex h x A K S0 nc M) (S : SlotsOK Z) (i : Nat) {p : String × String × Nat} (hp : scal[i]? = some p) (W : Wr h h' x (Jvm.RoadKit.slotOf Z EC p.1 p.2.1) (.int v)) : EB Z n0 ex h' x A K S0 nc (sto M p.2.2 0 v) := by
  have hp := List.mem_of_getElem? hp
  obtain ⟨b1, b2, b3, b4, ⟨c, c1, c2, c3⟩, b6, b7, b8, b9, b10, b11⟩ := B
  have key : ∀ p ∈ scal, (p.1, p.2.1) ∈ nmsE ∧ 9 ≤ p.2.2 ∧ p.2.2 < 13 ∧ ∀ q ∈ scal, p = q ∨ (p.1 ≠ q.1 ∧ p.2.2 ≠ q.2.2) := by decide +kernel
  have keyr : ∀ q ∈ frefs A S0 nc, (q.1, q.2.1) ∈ nmsE ∧ ∀ p ∈ scal, q.1 ≠ p.1 := fun q hq => by
    simp only [frefs, List.mem_cons, List.not_mem_nil, or_false] at hq
    rcases hq with rfl | rfl | rfl | rfl | rfl | rfl | rfl | rfl | rfl | rfl | rfl <;> (dsimp only; exact ⟨by decide +kernel, by decide +kernel⟩)
  obtain ⟨k1, k2, k3, k4⟩ := key p hp
  have hrl : p.2.2 < M.length := by omega
  rw [sto_eq]
  refine ⟨b1.wr W, fun s hs => ?_, fun q hq => (b3 q hq).other W (Or.inr (own_S S (keyr q hq).1 k1 ((keyr q hq).2 p hp))), fun q hq => ?_, ⟨c, c1.other W b9, c2, c3⟩, b6, b7, b8, b9, by rw [List.length_set]; exact b10, b11⟩
  · rw [own_gsetN (Ne.symm ((own_isn hs b10).2 p hp))]
    exact (b2 s hs).other W (b7 s hs).1
  · rcases k4 q hq with e | ⟨e1, e2⟩
    · subst e
      have l1 := (b4 p hp).2
      rw [ld_eq, own_gset, if_pos ⟨rfl, hrl⟩, own_lset _ _ _ _ (by omega), if_pos rfl, List.length_set]
      exact ⟨Fld.same W (b4 p hp).1, l1⟩
    · rw [ld_eq, own_gsetN (Ne.symm e2), ← ld_eq]
      exact ⟨(b4 q hq).1.other W (Or.inr (own_S S (key q hq).1 k1 (Ne.symm e1))), (b4 q hq).2⟩
theorem own_tyS (k : Nat) : tyR (14 + k) = .byte := by unfold tyR; rw [if_neg (by omega), if_neg (by omega)]
theorem own_tyA {a : Addr} {c : Cell} {k : Nat} (R : Arr Z h a c (tyR (14 + k))) : Arr Z h a c .byte := by rw [own_tyS] at R; exact R
theorem own_fitS {k : Nat} {u : Value} (q : fits .byte u = true) : fits (tyR (14 + k)) u = true := by rw [own_tyS]; exact q
theorem own_rwF {n d : String} (e : v = w) (F : Fld Z h x EC n d (.int w)) : Fld Z h x EC n d (.int v) := e ▸ F
theorem own_gS {k : Nat} (g : inr j nc = true) : inr j (lnR nc (14 + k)) = true := by rw [own_lnS]; exact g
def upA {α : Type} (A : Nat → α) (b : α) : Nat → α := fun r => if r = 13 then b else A r
theorem upA_ne {α : Type} {A : Nat → α} {b : α} {r : Nat} (h : r ≠ 13) : upA A b r = A r := if_neg h
theorem EB.alloc {k : ClassId} (B : EB Z n0 false h x A K S0 nc M) (O : Old Z n0 h) (E : Ext h h') (R : Arr Z h' b (newA k .int 3) .int) (g : b = h.size) : EB Z n0 true h' x (upA A b) (upA K k) S0 nc (setN [0, 0, 0] 13 M) := by
  rw [setN_eq]
  obtain ⟨b1, b2, b3, b4, ⟨c, c1, c2, c3⟩, b6, b7, b8, b9, b10, b11⟩ := B
  have old : ∀ r, isA true nc r → r ≠ 13 → isA false nc r := fun r hr e => by
    rcases hr with q | ⟨q, -⟩ | q
    · exact Or.inl q
    · exact absurd q e
    · exact Or.inr (Or.inr q)
  have fresh : ∀ r, isA false nc r → A r ≠ b := fun r hr e => by
    obtain ⟨c', a', -⟩ := b2 r hr
    have := a'.lt
    rw [e, g] at this; exact Nat.lt_irrefl _ this
  refine ⟨b1.ext E, fun r hr => ?_, fun p hp => (b3 p hp).ext E, fun p hp => ?_, ⟨c, c1.ext E, c2, fun i hi => by rw [upA_ne (by omega)]; exact c3 i hi⟩, fun r s hr hs e => ?_, fun r hr => ?_, b8, b9, by rw [List.length_set]; exact b10, b11⟩
  · by_cases q : r = 13
    · subst q
      rw [own_gset, if_pos ⟨rfl, by omega⟩]
      refine ⟨_, R, rfl, by rw [sz_new]; rfl, fun i hi => ?_, fun i hi => rfl, by rw [sz_new]; rfl⟩
      rw [sz_new] at hi
      have hi : i < 3 := hi
      match i, hi with
      | 0, _ => simp [newA, defaultValue]
      | 1, _ => simp [newA, defaultValue]
      | 2, _ => simp [newA, defaultValue]
    · rw [own_gsetN q, upA_ne q, upA_ne q]
      exact (b2 r (old r hr q)).ext E
  · have key : ∀ p ∈ scal, p.2.2 ≠ 13 := by decide +kernel
    rw [ld_eq, own_gsetN (key p hp), ← ld_eq]
    exact ⟨(b4 p hp).1.ext E, (b4 p hp).2⟩
  · by_cases q : r = 13 <;> by_cases q' : s = 13
    · rw [q, q']
    · subst q
      rw [upA_ne q'] at e
      exact absurd e.symm (fresh s (old s hs q'))
    · subst q'
      rw [upA_ne q] at e
      exact absurd e (fresh r (old r hr q))
    · rw [upA_ne q, upA_ne q'] at e
      exact b6 r s (old r hr q) (old s hs q') e
  · by_cases q : r = 13
    · subst q
      show b ≠ x ∧ b ≠ S0 ∧ n0 ≤ b
      obtain ⟨cx, kx, x1, -⟩ := b1
      refine ⟨fun e => ?_, fun e => ?_, g ▸ own_old O⟩
      · have := (Array.getElem?_eq_some_iff.mp x1).1; rw [← e, g] at this; exact Nat.lt_irrefl _ this
      · have := c1.lt; rw [← e, g] at this; exact Nat.lt_irrefl _ this
    · rw [upA_ne q]; exact b7 r (old r hr q)
theorem EB.drop {k : ClassId} (B : EB Z n0 true h x (upA A b) (upA K k) S0 nc M) : EB Z n0 false h x A K S0 nc (setN [] 13 M) := by
  rw [setN_eq]
  obtain ⟨b1, b2, b3, b4, ⟨c, c1, c2, c3⟩, b6, b7, b8, b9, b10, b11⟩ := B
  have up : ∀ r, isA false nc r → isA true nc r ∧ r ≠ 13 := fun r hr => by
    rcases hr with q | ⟨-, q⟩ | q
    · exact ⟨Or.inl q, by omega⟩
    · cases q
    · exact ⟨Or.inr (Or.inr q), by omega⟩
  refine ⟨b1, fun r hr => ?_, b3, fun p hp => ?_, ⟨c, c1, c2, fun i hi => by have := c3 i hi; rwa [upA_ne (by omega)] at this⟩, fun r s hr hs e => ?_, fun r hr => ?_, b8, b9, by rw [List.length_set]; exact b10, b11⟩
  · have := b2 r (up r hr).1
    rw [upA_ne (up r hr).2, upA_ne (up r hr).2] at this
    rw [own_gsetN (up r hr).2]; exact this
  · have key : ∀ p ∈ scal, p.2.2 ≠ 13 := by decide +kernel
    rw [ld_eq, own_gsetN (key p hp), ← ld_eq]
    exact b4 p hp
  · exact b6 r s (up r hr).1 (up s hs).1 (by rw [upA_ne (up r hr).2, upA_ne (up s hs).2]; exact e)
  · have := b7 r (up r hr).1
    rwa [upA_ne (up r hr).2] at this
theorem own_selP {s : State} {args : Array Value} {C : String} {n : Nat} {y : MethodName} (hc : y.cls = C) (wi : (Cond.instantiable C n).before args s = true) (hpriv : s.PrivateAt y) (hinst : (Cond.instanceMethod y).before args s = true) (hy : y.cls ≠ "java/lang/invoke/MethodHandle" ∧ y.cls ≠ "java/lang/invoke/VarHandle") : (Cond.selects y.cls y y).before args s = true := by
  obtain ⟨t, k, g1, g2, -, g4, -⟩ := Cond.instantiable_spec wi
  exact selects_self_of_private (hc ▸ g1) g2 (Bool.or_eq_false_iff.mp g4).1 hpriv hinst hy
def iR (r : Nat) : Nat := if r < 9 then r else r - 5
def rI (i : Nat) : Nat := if i < 9 then i else i + 5
theorem own_ari {a : Addr} {k : ClassId} {ty : FieldType} {z : Int32} {vs : List Value} {d : Value} {n : Nat} (F : Arv Z h a k ty z vs d) (L : List Int32) (hv : vs = L.map Value.int) (hl : L.length = z.toNatClampNeg) (hn : z.toNatClampNeg = n) : Ari Z h a k ty n L := by
  obtain ⟨c, A, r1, r2, -, H, G⟩ := F
  have e : ∀ i, i < c.slots.size → vs.getD i d = .int (L.getD i 0) := fun i hi => by
    have hi' : i < L.length := by rw [hl, ← r2]; exact hi
    subst hv
    simp [List.getD_eq_getElem?_getD, List.getElem?_map, List.getElem?_eq_getElem hi']
  exact ⟨c, A, r1, by rw [r2]; exact hn, fun i hi => by rw [← e i hi]; exact H i hi, fun i hi => by rw [← e i hi]; exact G i hi, by rw [hl, r2]⟩
theorem own_ariH {a : Addr} {k : ClassId} {ty : FieldType} {z : Int32} {n : Nat} (F : Arh Z h a k ty z [] [] (.int (0 : Int32))) (L : List Int32) (hl : L = List.replicate z.toNatClampNeg 0) (hn : z.toNatClampNeg = n) : Ari Z h a k ty n L := by
  obtain ⟨c, A, r1, r2, -, H, G⟩ := F
  have e : ∀ i, getH [] [] (.int (0 : Int32)) i = .int (L.getD i 0) := fun i => by
    subst hl
    simp only [getH, List.getD_eq_getElem?_getD, List.getElem?_replicate]
    split <;> rfl
  exact ⟨c, A, r1, by rw [r2]; exact hn, fun i hi => by rw [← e i]; exact H i hi, fun i hi => by rw [← e i]; exact G i hi, by rw [hl, List.length_replicate, r2]⟩
theorem own_pwget {NL : List Addr} (hP : NL.Pairwise (· ≠ ·)) {i j : Nat} (hi : i < NL.length) (hj : j < NL.length) (e : NL.getD i 0 = NL.getD j 0) : i = j := by
  rw [List.getD_eq_getElem?_getD, List.getD_eq_getElem?_getD, List.getElem?_eq_getElem hi, List.getElem?_eq_getElem hj] at e
  have e : NL[i] = NL[j] := e
  rcases Nat.lt_trichotomy i j with q | q | q
  · exact absurd e (List.pairwise_iff_getElem.mp hP i j hi hj q)
  · exact q
  · exact absurd e.symm (List.pairwise_iff_getElem.mp hP j i hj hi q)
theorem own_mkEB {NL : List Addr} {KL : List ClassId} (hl : NL.length = 9 + nc) (hnc : 0 < nc ∧ nc ≤ 100) (E : Exa Z h x EC) (hA : ∀ i, i < NL.length → Ari Z h (NL.getD i 0) (KL.getD i 0) (tyR (rI i)) (lnR nc (rI i)) (M.getD (rI i) []))
    (hF : ∀ p ∈ frefs (fun r => NL.getD (iR r) 0) S0 nc, Fld Z h x EC p.1 p.2.1 p.2.2) (hS : ∀ p ∈ scal, Fld Z h x EC p.1 p.2.1 (.int (ld M p.2.2 0)) ∧ (M.getD p.2.2 []).length = 1)
    (hT : ∃ c : Cell, Arr Z h S0 c (.array .byte) ∧ c.slots.size = nc ∧ ∀ i, i < c.slots.size → c.slots[i]? = some (.ref (NL.getD (9 + i) 0))) (hP : NL.Pairwise (· ≠ ·)) (hN : ∀ b ∈ NL, b ≠ x ∧ b ≠ S0 ∧ n0 ≤ b) (hx : n0 ≤ x) (h0 : S0 ≠ x) (hM : 14 + nc ≤ M.length) :
    EB Z n0 false h x (fun r => NL.getD (iR r) 0) (fun r => KL.getD (iR r) 0) S0 nc M := by
  have ok : ∀ r, isA false nc r → iR r < NL.length ∧ rI (iR r) = r := fun r hr => by
    unfold iR rI
    rcases hr with q | ⟨-, q⟩ | ⟨q1, q2⟩
    · rw [if_pos q, if_pos q]; exact ⟨by omega, rfl⟩
    · cases q
    · rw [if_neg (by omega), if_neg (by omega)]; omega
  obtain ⟨c, c1, c2, c3⟩ := hT
  refine ⟨E, fun r hr => ?_, hF, hS, ⟨c, c1, c2, fun i hi => ?_⟩, fun r s hr hs e => ?_, fun r hr => ?_, hx, h0, hM, hnc⟩
  · have := hA (iR r) (ok r hr).1
    rw [(ok r hr).2] at this; exact this
  · rw [c3 i hi]
    have : iR (14 + i) = 9 + i := by unfold iR; rw [if_neg (by omega)]; omega
    show _ = some (Value.ref (NL.getD (iR (14 + i)) 0))
    rw [this]
  · have := own_pwget hP (ok r hr).1 (ok s hs).1 e
    rw [← (ok r hr).2, ← (ok s hs).2, this]
  · refine hN _ ?_
    show NL.getD (iR r) 0 ∈ NL
    rw [List.getD_eq_getElem?_getD, List.getElem?_eq_getElem (ok r hr).1]
    exact List.getElem_mem _
theorem own_slots {a0 : Array Value} (H : ∀ p ∈ nmsE, Laid Z a0 EC EC p.1 p.2) : SlotsOK Z := fun p hp q hq hn => by
  have key : ∀ p ∈ nmsE, ∃ t, parseFieldDescriptor p.2 = some t := by
    intro p hp
    simp only [nmsE, List.mem_cons, List.not_mem_nil, or_false] at hp
    rcases hp with rfl | rfl | rfl | rfl | rfl | rfl | rfl | rfl | rfl | rfl | rfl | rfl | rfl | rfl | rfl <;> exact ⟨_, by rfl⟩
  obtain ⟨t, ht⟩ := key p hp
  obtain ⟨t', ht'⟩ := key q hq
  exact slot_ne (H p hp) (H q hq) hn ht ht'
end EB
def StF (Z : State) : Prop := True
theorem pn_4x1 : plainName "java/util/Arrays" = true := by first | (simp [plainName, overriddenIn]; done) | decide +kernel
theorem ef_4x1 (m : MethodId) (r0 : Addr) : entryFrame m #[(.ref r0), (.int ((4 : Int32) - (1 : Int32)))] 4 = mkF m 0 #[.val (.ref r0), .val (.int ((4 : Int32) - (1 : Int32))), .unset, .unset] [] := by first | (simp [entryFrame, mkF, argsToLocals, Value.category]; done) | rfl
def Q4x1 (Z : State) (r0 : Addr) (k_r0 : ClassId) (h0 : Heap) (n0 : Nat) (v : Option Value) (h : Heap) (L : List Loc) : Prop := v = none ∧ Fr n0 L ∧ Old Z n0 h ∧ Keep h0 h [r0] ∧ Arv Z h r0 k_r0 .int (4 : Int32) [(.int ((4 : Int32) - (1 : Int32))), (.int ((4 : Int32) - (1 : Int32))), (.int ((4 : Int32) - (1 : Int32))), (.int ((4 : Int32) - (1 : Int32)))] (.int (0 : Int32))
set_option maxRecDepth 65536 in
set_option maxHeartbeats 40000000 in
theorem rm4x1 (l : Launch) (Z : State) (a0 : Array Value) (hw : ∀ d ∈ tables_1, d.before a0 Z = true) (ws : List Jvm.Cond) (hS : StF Z) (r0 : Addr) (k_r0 : ClassId) (h0 : Heap) (n0 : Nat) (O0 : Old Z n0 h0) (g_r0 : n0 ≤ r0) (V_r0 : Arv Z h0 r0 k_r0 .int (4 : Int32) [(.int (0 : Int32)), (.int (0 : Int32)), (.int (0 : Int32)), (.int (0 : Int32))] (.int (0 : Int32))) :
    MetFree l Y6 (head1 (Jvm.Cond.code Y6 jdk_65_method_103_code 4 none :: ws) ({ frames := 0, cells := 0, slots := 0, locals := 0 } : Room)) (fun a U => a = #[(.ref r0), (.int ((4 : Int32) - (1 : Int32)))] ∧ Z.Warmed39 U.vm ∧ U.heap = h0) (fun _ _ _ _ _ => True) (fun _ U o U' => ∃ v L, o = .returned v ∧ Q4x1 Z r0 k_r0 h0 n0 v U'.heap L ∧ FrameEnd U o U' L ({ frames := 0, cells := 0, slots := 0, locals := 0 } : Room).cells ({ frames := 0, cells := 0, slots := 0, locals := 0 } : Room).slots) := by
  refine MetFree.of_bodySF (plainFor_of_name pn_4x1) hisR ?_
  intro p e s m args below meth c s₁ Bd hml0 hP hK
  obtain ⟨rfl, hZ, hh⟩ := hP
  have hx := Bd.exec
  have hby := Bd.bytes
  have hml : c.maxLocals = 4 := hml0
  have hown : s.vm.findClass "java/util/Arrays" = some m.cls := findClass_of_methodNamed Bd.named
  have hnm := (name_of_methodNamed Bd.named Bd.method).1
  have X0 : Stand p l e ({ frames := 0, cells := 0, slots := 0, locals := 0 } : Room) s m #[(.ref r0), (.int ((4 : Int32) - (1 : Int32)))] below meth c s₁ [] 0 0 := Stand.of_body Bd
  have e0 : s₁.heap = h0 := by rw [← hh, Bd.state]; rfl
  have N0 := Fr.nil n0
  have hS0 := hS
  skip
  have pre0 : ∀ t, Steps p.tables e below (s₁.setTop (mkF m 0 #[.val (.ref r0), .val (.int ((4 : Int32) - (1 : Int32))), .unset, .unset] [])) t → Steps p.tables e below (s₁.setTop (entryFrame m #[(.ref r0), (.int ((4 : Int32) - (1 : Int32)))] 4)) t := fun t k => castTop (ef_4x1 m r0) k
  generalize hE0 : s₁.setTop (entryFrame m #[(.ref r0), (.int ((4 : Int32) - (1 : Int32)))] 4) = E0 at pre0 ⊢
  obtain ⟨cl41, Ar41, qa41, Sa41, Ma41, Ha41, Ga41⟩ := id V_r0
  obtain ⟨cl42, Ar42, qa42, Sa42, Ma42, Ha42, Ga42⟩ := id V_r0
  have hin42 : ¬ ((0 : Int32) < 0 ∨ cl42.slots.size ≤ ((0 : Int32)).toNatClampNeg) := by exact inb_of Sa42 ⟨by decide, by decide⟩
  obtain ⟨T43, h43, X43, e43, W43, st43⟩ := stI X0 hx hZ e0 Ar42 (j := (0 : Int32)) hin42 (g := (mkF m 13 (lt6 r0 ((4 : Int32) - (1 : Int32)) (0 : Int32) (4 : Int32)) [(.int ((4 : Int32) - (1 : Int32))), (.int (0 : Int32)), (.ref r0)])) rfl rfl (hb hby d4_13)
  have V_r0_43 : Arv Z h43 r0 k_r0 .int (4 : Int32) [(.int ((4 : Int32) - (1 : Int32))), (.int (0 : Int32)), (.int (0 : Int32)), (.int (0 : Int32))] (.int (0 : Int32)) := Arv.set Ar42 qa42 Sa42 Ma42 Ha42 Ga42 rfl W43 0 rfl (Nat.le_of_ble_eq_true rfl)
  have O43 : Old Z n0 h43 := O0.wr W43 g_r0
  have N43 := Fr.snoc X43 N0 g_r0
  have K43 : Keep h0 h43 [r0] := (Keep.refl h0 [r0]).wr W43 (Or.inl (List.mem_of_getElem? (i := 0) rfl))
  obtain ⟨cl44, Ar44, qa44, Sa44, Ma44, Ha44, Ga44⟩ := id V_r0_43
  have hin44 : ¬ (((0 : Int32) + (1 : Int32)) < 0 ∨ cl44.slots.size ≤ (((0 : Int32) + (1 : Int32))).toNatClampNeg) := by exact inb_of Sa44 ⟨by decide, by decide⟩
  obtain ⟨T45, h45, X45, e45, W45, st45⟩ := stI X43 hx hZ e43 Ar44 (j := ((0 : Int32) + (1 : Int32))) hin44 (g := (mkF m 13 (lt6 r0 ((4 : Int32) - (1 : Int32)) ((0 : Int32) + (1 : Int32)) (4 : Int32)) [(.int ((4 : Int32) - (1 : Int32))), (.int ((0 : Int32) + (1 : Int32))), (.ref r0)])) rfl rfl (hb hby d4_13)
  have V_r0_45 : Arv Z h45 r0 k_r0 .int (4 : Int32) [(.int ((4 : Int32) - (1 : Int32))), (.int ((4 : Int32) - (1 : Int32))), (.int (0 : Int32)), (.int (0 : Int32))] (.int (0 : Int32)) := Arv.set Ar44 qa44 Sa44 Ma44 Ha44 Ga44 rfl W45 1 rfl (Nat.le_of_ble_eq_true rfl)
  have O45 : Old Z n0 h45 := O43.wr W45 g_r0
  have N45 := Fr.snoc X45 N43 g_r0
  have K45 : Keep h0 h45 [r0] := K43.wr W45 (Or.inl (List.mem_of_getElem? (i := 0) rfl))
  obtain ⟨cl46, Ar46, qa46, Sa46, Ma46, Ha46, Ga46⟩ := id V_r0_45
  have hin46 : ¬ ((((0 : Int32) + (1 : Int32)) + (1 : Int32)) < 0 ∨ cl46.slots.size ≤ ((((0 : Int32) + (1 : Int32)) + (1 : Int32))).toNatClampNeg) := by exact inb_of Sa46 ⟨by decide, by decide⟩
  obtain ⟨T47, h47, X47, e47, W47, st47⟩ := stI X45 hx hZ e45 Ar46 (j := (((0 : Int32) + (1 : Int32)) + (1 : Int32))) hin46 (g := (mkF m 13 (lt6 r0 ((4 : Int32) - (1 : Int32)) (((0 : Int32) + (1 : Int32)) + (1 : Int32)) (4 : Int32)) [(.int ((4 : Int32) - (1 : Int32))), (.int (((0 : Int32) + (1 : Int32)) + (1 : Int32))), (.ref r0)])) rfl rfl (hb hby d4_13)
  have V_r0_47 : Arv Z h47 r0 k_r0 .int (4 : Int32) [(.int ((4 : Int32) - (1 : Int32))), (.int ((4 : Int32) - (1 : Int32))), (.int ((4 : Int32) - (1 : Int32))), (.int (0 : Int32))] (.int (0 : Int32)) := Arv.set Ar46 qa46 Sa46 Ma46 Ha46 Ga46 rfl W47 2 rfl (Nat.le_of_ble_eq_true rfl)
  have O47 : Old Z n0 h47 := O45.wr W47 g_r0
  have N47 := Fr.snoc X47 N45 g_r0
  have K47 : Keep h0 h47 [r0] := K45.wr W47 (Or.inl (List.mem_of_getElem? (i := 0) rfl))
  obtain ⟨cl48, Ar48, qa48, Sa48, Ma48, Ha48, Ga48⟩ := id V_r0_47
  have hin48 : ¬ (((((0 : Int32) + (1 : Int32)) + (1 : Int32)) + (1 : Int32)) < 0 ∨ cl48.slots.size ≤ (((((0 : Int32) + (1 : Int32)) + (1 : Int32)) + (1 : Int32))).toNatClampNeg) := by exact inb_of Sa48 ⟨by decide, by decide⟩
  obtain ⟨T49, h49, X49, e49, W49, st49⟩ := stI X47 hx hZ e47 Ar48 (j := ((((0 : Int32) + (1 : Int32)) + (1 : Int32)) + (1 : Int32))) hin48 (g := (mkF m 13 (lt6 r0 ((4 : Int32) - (1 : Int32)) ((((0 : Int32) + (1 : Int32)) + (1 : Int32)) + (1 : Int32)) (4 : Int32)) [(.int ((4 : Int32) - (1 : Int32))), (.int ((((0 : Int32) + (1 : Int32)) + (1 : Int32)) + (1 : Int32))), (.ref r0)])) rfl rfl (hb hby d4_13)
  have V_r0_49 : Arv Z h49 r0 k_r0 .int (4 : Int32) [(.int ((4 : Int32) - (1 : Int32))), (.int ((4 : Int32) - (1 : Int32))), (.int ((4 : Int32) - (1 : Int32))), (.int ((4 : Int32) - (1 : Int32)))] (.int (0 : Int32)) := Arv.set Ar48 qa48 Sa48 Ma48 Ha48 Ga48 rfl W49 3 rfl (Nat.le_of_ble_eq_true rfl)
  have O49 : Old Z n0 h49 := O47.wr W49 g_r0
  have N49 := Fr.snoc X49 N47 g_r0
  have K49 : Keep h0 h49 [r0] := K47.wr W49 (Or.inl (List.mem_of_getElem? (i := 0) rfl))
  obtain ⟨fs, hr, hrun, hended, hW, hsame⟩ := X49.leave (v := none) (fun _ => rfl)
  refine ⟨_, _, pre0 _ ?_, hrun, hended, _, _, rfl, ?_, ⟨_, rfl⟩, hW, hsame.mono (by decide) (by decide)⟩
  · show Sp p e below s₁ (mkF m 0 (lt4 r0 ((4 : Int32) - (1 : Int32))) []) _
    refine XS.iconst X0.here hx rfl (hb hby d4_0) ?_
    refine XS.istoreN X0.here hx rfl (hb hby d4_1) rfl (l' := (lt5 r0 ((4 : Int32) - (1 : Int32)) (0 : Int32))) rfl ?_
    show Sp p e below s₁ (mkF m 2 (lt5 r0 ((4 : Int32) - (1 : Int32)) (0 : Int32)) []) _
    refine XS.aloadN X0.here hx rfl (hb hby d4_2) rfl rfl ?_
    show Sp p e below s₁ (mkF m 3 (lt5 r0 ((4 : Int32) - (1 : Int32)) (0 : Int32)) [(.ref r0)]) _
    refine X0.arraylength hx (by rw [e0]; exact Ar41.1) (State.isArrayOf_alike hZ.alike Ar41.2.1) (g := (mkF m 3 (lt5 r0 ((4 : Int32) - (1 : Int32)) (0 : Int32)) [(.ref r0)])) rfl rfl (hb hby d4_3) _ ?_
    rw [len_of Sa41 Ma41]
    show Sp p e below s₁ (mkF m 4 (lt5 r0 ((4 : Int32) - (1 : Int32)) (0 : Int32)) [(.int (4 : Int32))]) _
    refine XS.istoreN X0.here hx rfl (hb hby d4_4) rfl (l' := (lt6 r0 ((4 : Int32) - (1 : Int32)) (0 : Int32) (4 : Int32))) rfl ?_
    refine XS.iloadN X0.here hx rfl (hb hby d4_5) rfl ?_
    show Sp p e below s₁ (mkF m 6 (lt6 r0 ((4 : Int32) - (1 : Int32)) (0 : Int32) (4 : Int32)) [(.int (0 : Int32))]) _
    refine XS.iloadN X0.here hx rfl (hb hby d4_6) rfl ?_
    show Sp p e below s₁ (mkF m 7 (lt6 r0 ((4 : Int32) - (1 : Int32)) (0 : Int32) (4 : Int32)) [(.int (4 : Int32)), (.int (0 : Int32))]) _
    refine XS.icmpNo X0.here hx rfl (hb hby d4_7) rfl (tlt (by decide : ((0 : Int32) < (4 : Int32)))).2.1 ?_
    show Sp p e below s₁ (mkF m 10 (lt6 r0 ((4 : Int32) - (1 : Int32)) (0 : Int32) (4 : Int32)) []) _
    refine XS.aloadN X0.here hx rfl (hb hby d4_10) rfl rfl ?_
    refine XS.iloadN X0.here hx rfl (hb hby d4_11) rfl ?_
    show Sp p e below s₁ (mkF m 12 (lt6 r0 ((4 : Int32) - (1 : Int32)) (0 : Int32) (4 : Int32)) [(.int (0 : Int32)), (.ref r0)]) _
    refine XS.iloadN X0.here hx rfl (hb hby d4_12) rfl ?_
    show Sp p e below s₁ (mkF m 13 (lt6 r0 ((4 : Int32) - (1 : Int32)) (0 : Int32) (4 : Int32)) [(.int ((4 : Int32) - (1 : Int32))), (.int (0 : Int32)), (.ref r0)]) _
    refine st43 _ ?_
    show Sp p e below T43 (mkF m 14 (lt6 r0 ((4 : Int32) - (1 : Int32)) (0 : Int32) (4 : Int32)) []) _
    refine XS.iinc X43.here hx rfl (hb hby d4_14) rfl (l' := (lt6 r0 ((4 : Int32) - (1 : Int32)) ((0 : Int32) + (1 : Int32)) (4 : Int32))) rfl ?_
    show Sp p e below T43 (mkF m 17 (lt6 r0 ((4 : Int32) - (1 : Int32)) ((0 : Int32) + (1 : Int32)) (4 : Int32)) []) _
    refine XS.goto X43.here hx rfl (pc0 := 17) (pc' := 5) rfl (hb hby d4_17) (by decide) (by decide) ?_
    show Sp p e below T43 (mkF m 5 (lt6 r0 ((4 : Int32) - (1 : Int32)) ((0 : Int32) + (1 : Int32)) (4 : Int32)) []) _
    refine XS.iloadN X43.here hx rfl (hb hby d4_5) rfl ?_
    refine XS.iloadN X43.here hx rfl (hb hby d4_6) rfl ?_
    show Sp p e below T43 (mkF m 7 (lt6 r0 ((4 : Int32) - (1 : Int32)) ((0 : Int32) + (1 : Int32)) (4 : Int32)) [(.int (4 : Int32)), (.int ((0 : Int32) + (1 : Int32)))]) _
    refine XS.icmpNo X43.here hx rfl (hb hby d4_7) rfl (tlt (by decide : (((0 : Int32) + (1 : Int32)) < (4 : Int32)))).2.1 ?_
    show Sp p e below T43 (mkF m 10 (lt6 r0 ((4 : Int32) - (1 : Int32)) ((0 : Int32) + (1 : Int32)) (4 : Int32)) []) _
    refine XS.aloadN X43.here hx rfl (hb hby d4_10) rfl rfl ?_
    refine XS.iloadN X43.here hx rfl (hb hby d4_11) rfl ?_
    show Sp p e below T43 (mkF m 12 (lt6 r0 ((4 : Int32) - (1 : Int32)) ((0 : Int32) + (1 : Int32)) (4 : Int32)) [(.int ((0 : Int32) + (1 : Int32))), (.ref r0)]) _
    refine XS.iloadN X43.here hx rfl (hb hby d4_12) rfl ?_
    show Sp p e below T43 (mkF m 13 (lt6 r0 ((4 : Int32) - (1 : Int32)) ((0 : Int32) + (1 : Int32)) (4 : Int32)) [(.int ((4 : Int32) - (1 : Int32))), (.int ((0 : Int32) + (1 : Int32))), (.ref r0)]) _
    refine st45 _ ?_
    show Sp p e below T45 (mkF m 14 (lt6 r0 ((4 : Int32) - (1 : Int32)) ((0 : Int32) + (1 : Int32)) (4 : Int32)) []) _
    refine XS.iinc X45.here hx rfl (hb hby d4_14) rfl (l' := (lt6 r0 ((4 : Int32) - (1 : Int32)) (((0 : Int32) + (1 : Int32)) + (1 : Int32)) (4 : Int32))) rfl ?_
    show Sp p e below T45 (mkF m 17 (lt6 r0 ((4 : Int32) - (1 : Int32)) (((0 : Int32) + (1 : Int32)) + (1 : Int32)) (4 : Int32)) []) _
    refine XS.goto X45.here hx rfl (pc0 := 17) (pc' := 5) rfl (hb hby d4_17) (by decide) (by decide) ?_
    show Sp p e below T45 (mkF m 5 (lt6 r0 ((4 : Int32) - (1 : Int32)) (((0 : Int32) + (1 : Int32)) + (1 : Int32)) (4 : Int32)) []) _
    refine XS.iloadN X45.here hx rfl (hb hby d4_5) rfl ?_
    refine XS.iloadN X45.here hx rfl (hb hby d4_6) rfl ?_
    show Sp p e below T45 (mkF m 7 (lt6 r0 ((4 : Int32) - (1 : Int32)) (((0 : Int32) + (1 : Int32)) + (1 : Int32)) (4 : Int32)) [(.int (4 : Int32)), (.int (((0 : Int32) + (1 : Int32)) + (1 : Int32)))]) _
    refine XS.icmpNo X45.here hx rfl (hb hby d4_7) rfl (tlt (by decide : ((((0 : Int32) + (1 : Int32)) + (1 : Int32)) < (4 : Int32)))).2.1 ?_
    show Sp p e below T45 (mkF m 10 (lt6 r0 ((4 : Int32) - (1 : Int32)) (((0 : Int32) + (1 : Int32)) + (1 : Int32)) (4 : Int32)) []) _
    refine XS.aloadN X45.here hx rfl (hb hby d4_10) rfl rfl ?_
    refine XS.iloadN X45.here hx rfl (hb hby d4_11) rfl ?_
    show Sp p e below T45 (mkF m 12 (lt6 r0 ((4 : Int32) - (1 : Int32)) (((0 : Int32) + (1 : Int32)) + (1 : Int32)) (4 : Int32)) [(.int (((0 : Int32) + (1 : Int32)) + (1 : Int32))), (.ref r0)]) _
    refine XS.iloadN X45.here hx rfl (hb hby d4_12) rfl ?_
    show Sp p e below T45 (mkF m 13 (lt6 r0 ((4 : Int32) - (1 : Int32)) (((0 : Int32) + (1 : Int32)) + (1 : Int32)) (4 : Int32)) [(.int ((4 : Int32) - (1 : Int32))), (.int (((0 : Int32) + (1 : Int32)) + (1 : Int32))), (.ref r0)]) _
    refine st47 _ ?_
    show Sp p e below T47 (mkF m 14 (lt6 r0 ((4 : Int32) - (1 : Int32)) (((0 : Int32) + (1 : Int32)) + (1 : Int32)) (4 : Int32)) []) _
    refine XS.iinc X47.here hx rfl (hb hby d4_14) rfl (l' := (lt6 r0 ((4 : Int32) - (1 : Int32)) ((((0 : Int32) + (1 : Int32)) + (1 : Int32)) + (1 : Int32)) (4 : Int32))) rfl ?_
    show Sp p e below T47 (mkF m 17 (lt6 r0 ((4 : Int32) - (1 : Int32)) ((((0 : Int32) + (1 : Int32)) + (1 : Int32)) + (1 : Int32)) (4 : Int32)) []) _
    refine XS.goto X47.here hx rfl (pc0 := 17) (pc' := 5) rfl (hb hby d4_17) (by decide) (by decide) ?_
    show Sp p e below T47 (mkF m 5 (lt6 r0 ((4 : Int32) - (1 : Int32)) ((((0 : Int32) + (1 : Int32)) + (1 : Int32)) + (1 : Int32)) (4 : Int32)) []) _
    refine XS.iloadN X47.here hx rfl (hb hby d4_5) rfl ?_
    refine XS.iloadN X47.here hx rfl (hb hby d4_6) rfl ?_
    show Sp p e below T47 (mkF m 7 (lt6 r0 ((4 : Int32) - (1 : Int32)) ((((0 : Int32) + (1 : Int32)) + (1 : Int32)) + (1 : Int32)) (4 : Int32)) [(.int (4 : Int32)), (.int ((((0 : Int32) + (1 : Int32)) + (1 : Int32)) + (1 : Int32)))]) _
    refine XS.icmpNo X47.here hx rfl (hb hby d4_7) rfl (tlt (by decide : (((((0 : Int32) + (1 : Int32)) + (1 : Int32)) + (1 : Int32)) < (4 : Int32)))).2.1 ?_
    show Sp p e below T47 (mkF m 10 (lt6 r0 ((4 : Int32) - (1 : Int32)) ((((0 : Int32) + (1 : Int32)) + (1 : Int32)) + (1 : Int32)) (4 : Int32)) []) _
    refine XS.aloadN X47.here hx rfl (hb hby d4_10) rfl rfl ?_
    refine XS.iloadN X47.here hx rfl (hb hby d4_11) rfl ?_
    show Sp p e below T47 (mkF m 12 (lt6 r0 ((4 : Int32) - (1 : Int32)) ((((0 : Int32) + (1 : Int32)) + (1 : Int32)) + (1 : Int32)) (4 : Int32)) [(.int ((((0 : Int32) + (1 : Int32)) + (1 : Int32)) + (1 : Int32))), (.ref r0)]) _
    refine XS.iloadN X47.here hx rfl (hb hby d4_12) rfl ?_
    show Sp p e below T47 (mkF m 13 (lt6 r0 ((4 : Int32) - (1 : Int32)) ((((0 : Int32) + (1 : Int32)) + (1 : Int32)) + (1 : Int32)) (4 : Int32)) [(.int ((4 : Int32) - (1 : Int32))), (.int ((((0 : Int32) + (1 : Int32)) + (1 : Int32)) + (1 : Int32))), (.ref r0)]) _
    refine st49 _ ?_
    show Sp p e below T49 (mkF m 14 (lt6 r0 ((4 : Int32) - (1 : Int32)) ((((0 : Int32) + (1 : Int32)) + (1 : Int32)) + (1 : Int32)) (4 : Int32)) []) _
    refine XS.iinc X49.here hx rfl (hb hby d4_14) rfl (l' := (lt6 r0 ((4 : Int32) - (1 : Int32)) (((((0 : Int32) + (1 : Int32)) + (1 : Int32)) + (1 : Int32)) + (1 : Int32)) (4 : Int32))) rfl ?_
    show Sp p e below T49 (mkF m 17 (lt6 r0 ((4 : Int32) - (1 : Int32)) (((((0 : Int32) + (1 : Int32)) + (1 : Int32)) + (1 : Int32)) + (1 : Int32)) (4 : Int32)) []) _
    refine XS.goto X49.here hx rfl (pc0 := 17) (pc' := 5) rfl (hb hby d4_17) (by decide) (by decide) ?_
    show Sp p e below T49 (mkF m 5 (lt6 r0 ((4 : Int32) - (1 : Int32)) (((((0 : Int32) + (1 : Int32)) + (1 : Int32)) + (1 : Int32)) + (1 : Int32)) (4 : Int32)) []) _
    refine XS.iloadN X49.here hx rfl (hb hby d4_5) rfl ?_
    refine XS.iloadN X49.here hx rfl (hb hby d4_6) rfl ?_
    show Sp p e below T49 (mkF m 7 (lt6 r0 ((4 : Int32) - (1 : Int32)) (((((0 : Int32) + (1 : Int32)) + (1 : Int32)) + (1 : Int32)) + (1 : Int32)) (4 : Int32)) [(.int (4 : Int32)), (.int (((((0 : Int32) + (1 : Int32)) + (1 : Int32)) + (1 : Int32)) + (1 : Int32)))]) _
    refine XS.icmpYes X49.here hx rfl (pc0 := 7) (pc' := 20) rfl (hb hby d4_7) rfl (flt (by decide : ¬ ((((((0 : Int32) + (1 : Int32)) + (1 : Int32)) + (1 : Int32)) + (1 : Int32)) < (4 : Int32)))).2.1 (by decide) (by decide) ?_
    show Sp p e below T49 (mkF m 20 (lt6 r0 ((4 : Int32) - (1 : Int32)) (((((0 : Int32) + (1 : Int32)) + (1 : Int32)) + (1 : Int32)) + (1 : Int32)) (4 : Int32)) []) _
    exact X49.returnOut hx Bd.returns (hb hby d4_20) hr
  · show Q4x1 Z r0 k_r0 h0 n0 _ T49.heap _
    rw [e49]
    exact ⟨rfl, N49, O49, K49, V_r0_49⟩
theorem ef_5x1 (m : MethodId)  : entryFrame m #[(.long ((((4 : Int32).toInt64) * (((4 : Int32) - (1 : Int32)).toInt64)) + ((6 : Int64) * ((4 : Int32).toInt64))))] 2 = mkF m 0 #[.val (.long ((((4 : Int32).toInt64) * (((4 : Int32) - (1 : Int32)).toInt64)) + ((6 : Int64) * ((4 : Int32).toInt64)))), .second] [] := by first | (simp [entryFrame, mkF, argsToLocals, Value.category]; done) | rfl
def Q5x1 (Z : State) (h0 : Heap) (n0 : Nat) (v : Option Value) (h : Heap) (L : List Loc) : Prop := v = some (.int (((((4 : Int32).toInt64) * (((4 : Int32) - (1 : Int32)).toInt64)) + ((6 : Int64) * ((4 : Int32).toInt64))).toInt32)) ∧ Fr n0 L ∧ h = h0
set_option maxRecDepth 65536 in
set_option maxHeartbeats 40000000 in
theorem rm5x1 (l : Launch) (Z : State) (a0 : Array Value) (hw : ∀ d ∈ tables_1, d.before a0 Z = true) (ws : List Jvm.Cond) (hS : StF Z) (h0 : Heap) (n0 : Nat) (O0 : Old Z n0 h0) :
    MetFree l Y9 (head1 (Jvm.Cond.code Y9 jdk_29_method_43_code 2 (some .int) :: ws) ({ frames := 0, cells := 0, slots := 0, locals := 0 } : Room)) (fun a U => a = #[(.long ((((4 : Int32).toInt64) * (((4 : Int32) - (1 : Int32)).toInt64)) + ((6 : Int64) * ((4 : Int32).toInt64))))] ∧ Z.Warmed39 U.vm ∧ U.heap = h0) (fun _ _ _ _ _ => True) (fun _ U o U' => ∃ v L, o = .returned v ∧ Q5x1 Z h0 n0 v U'.heap L ∧ FrameEnd U o U' L ({ frames := 0, cells := 0, slots := 0, locals := 0 } : Room).cells ({ frames := 0, cells := 0, slots := 0, locals := 0 } : Room).slots) := by
  refine MetFree.of_bodySF (Jvm.Free.JP.mathPlain rfl (by decide +kernel)) hisR ?_
  intro p e s m args below meth c s₁ Bd hml0 hP hK
  obtain ⟨rfl, hZ, hh⟩ := hP
  have hx := Bd.exec
  have hby := Bd.bytes
  have hml : c.maxLocals = 2 := hml0
  have hown : s.vm.findClass "java/lang/Math" = some m.cls := findClass_of_methodNamed Bd.named
  have hnm := (name_of_methodNamed Bd.named Bd.method).1
  have X0 : Stand p l e ({ frames := 0, cells := 0, slots := 0, locals := 0 } : Room) s m #[(.long ((((4 : Int32).toInt64) * (((4 : Int32) - (1 : Int32)).toInt64)) + ((6 : Int64) * ((4 : Int32).toInt64))))] below meth c s₁ [] 0 0 := Stand.of_body Bd
  have e0 : s₁.heap = h0 := by rw [← hh, Bd.state]; rfl
  have N0 := Fr.nil n0
  have hS0 := hS
  skip
  have pre0 : ∀ t, Steps p.tables e below (s₁.setTop (mkF m 0 #[.val (.long ((((4 : Int32).toInt64) * (((4 : Int32) - (1 : Int32)).toInt64)) + ((6 : Int64) * ((4 : Int32).toInt64)))), .second] [])) t → Steps p.tables e below (s₁.setTop (entryFrame m #[(.long ((((4 : Int32).toInt64) * (((4 : Int32) - (1 : Int32)).toInt64)) + ((6 : Int64) * ((4 : Int32).toInt64))))] 2)) t := fun t k => castTop (ef_5x1 m ) k
  generalize hE0 : s₁.setTop (entryFrame m #[(.long ((((4 : Int32).toInt64) * (((4 : Int32) - (1 : Int32)).toInt64)) + ((6 : Int64) * ((4 : Int32).toInt64))))] 2) = E0 at pre0 ⊢
  obtain ⟨fs, hr, hrun, hended, hW, hsame⟩ := X0.leave (v := some (.int (((((4 : Int32).toInt64) * (((4 : Int32) - (1 : Int32)).toInt64)) + ((6 : Int64) * ((4 : Int32).toInt64))).toInt32))) (fun h => by rw [Bd.returns] at h; cases h)
  refine ⟨_, _, pre0 _ ?_, hrun, hended, _, _, rfl, ?_, ⟨_, rfl⟩, hW, hsame.mono (by decide) (by decide)⟩
  · show Sp p e below s₁ (mkF m 0 (lt8 ((((4 : Int32).toInt64) * (((4 : Int32) - (1 : Int32)).toInt64)) + ((6 : Int64) * ((4 : Int32).toInt64)))) []) _
    refine XS.lloadN X0.here hx rfl (hb hby d5_0) rfl ?_
    refine XS.l2i X0.here hx rfl (hb hby d5_1) rfl ?_
    show Sp p e below s₁ (mkF m 2 (lt8 ((((4 : Int32).toInt64) * (((4 : Int32) - (1 : Int32)).toInt64)) + ((6 : Int64) * ((4 : Int32).toInt64)))) [(.int (((((4 : Int32).toInt64) * (((4 : Int32) - (1 : Int32)).toInt64)) + ((6 : Int64) * ((4 : Int32).toInt64))).toInt32))]) _
    refine XS.i2l X0.here hx rfl (hb hby d5_2) rfl ?_
    refine XS.lloadN X0.here hx rfl (hb hby d5_3) rfl ?_
    show Sp p e below s₁ (mkF m 4 (lt8 ((((4 : Int32).toInt64) * (((4 : Int32) - (1 : Int32)).toInt64)) + ((6 : Int64) * ((4 : Int32).toInt64)))) [(.long ((((4 : Int32).toInt64) * (((4 : Int32) - (1 : Int32)).toInt64)) + ((6 : Int64) * ((4 : Int32).toInt64)))), (.long ((((((4 : Int32).toInt64) * (((4 : Int32) - (1 : Int32)).toInt64)) + ((6 : Int64) * ((4 : Int32).toInt64))).toInt32).toInt64))]) _
    refine XS.lcmp X0.here hx rfl (hb hby d5_4) rfl ?_
    show Sp p e below s₁ (mkF m 5 (lt8 ((((4 : Int32).toInt64) * (((4 : Int32) - (1 : Int32)).toInt64)) + ((6 : Int64) * ((4 : Int32).toInt64)))) [(.int (lcmpW ((((((4 : Int32).toInt64) * (((4 : Int32) - (1 : Int32)).toInt64)) + ((6 : Int64) * ((4 : Int32).toInt64))).toInt32).toInt64) ((((4 : Int32).toInt64) * (((4 : Int32) - (1 : Int32)).toInt64)) + ((6 : Int64) * ((4 : Int32).toInt64)))))]) _
    refine XS.ifYes X0.here hx rfl (pc0 := 5) (pc' := 18) rfl (hb hby d5_5) rfl ((if0 _ _).trans (teq (by decide : ((lcmpW ((((((4 : Int32).toInt64) * (((4 : Int32) - (1 : Int32)).toInt64)) + ((6 : Int64) * ((4 : Int32).toInt64))).toInt32).toInt64) ((((4 : Int32).toInt64) * (((4 : Int32) - (1 : Int32)).toInt64)) + ((6 : Int64) * ((4 : Int32).toInt64)))) = (0 : Int32)))).1) (by decide) (by decide) ?_
    show Sp p e below s₁ (mkF m 18 (lt8 ((((4 : Int32).toInt64) * (((4 : Int32) - (1 : Int32)).toInt64)) + ((6 : Int64) * ((4 : Int32).toInt64)))) []) _
    refine XS.lloadN X0.here hx rfl (hb hby d5_18) rfl ?_
    refine XS.l2i X0.here hx rfl (hb hby d5_19) rfl ?_
    show Sp p e below s₁ (mkF m 20 (lt8 ((((4 : Int32).toInt64) * (((4 : Int32) - (1 : Int32)).toInt64)) + ((6 : Int64) * ((4 : Int32).toInt64)))) [(.int (((((4 : Int32).toInt64) * (((4 : Int32) - (1 : Int32)).toInt64)) + ((6 : Int64) * ((4 : Int32).toInt64))).toInt32))]) _
    exact retI X0 hx Bd.returns (hb hby d5_20) hr
  · show Q5x1 Z h0 n0 _ s₁.heap _
    rw [e0]
    exact ⟨rfl, N0, rfl⟩
theorem ef_5x2 (m : MethodId)  : entryFrame m #[(.long (((4 : Int32).toInt64) * (((4 : Int32) - (1 : Int32)).toInt64)))] 2 = mkF m 0 #[.val (.long (((4 : Int32).toInt64) * (((4 : Int32) - (1 : Int32)).toInt64))), .second] [] := by first | (simp [entryFrame, mkF, argsToLocals, Value.category]; done) | rfl
def Q5x2 (Z : State) (h0 : Heap) (n0 : Nat) (v : Option Value) (h : Heap) (L : List Loc) : Prop := v = some (.int ((((4 : Int32).toInt64) * (((4 : Int32) - (1 : Int32)).toInt64)).toInt32)) ∧ Fr n0 L ∧ h = h0
set_option maxRecDepth 65536 in
set_option maxHeartbeats 40000000 in
theorem rm5x2 (l : Launch) (Z : State) (a0 : Array Value) (hw : ∀ d ∈ tables_1, d.before a0 Z = true) (ws : List Jvm.Cond) (hS : StF Z) (h0 : Heap) (n0 : Nat) (O0 : Old Z n0 h0) :
    MetFree l Y9 (head1 (Jvm.Cond.code Y9 jdk_29_method_43_code 2 (some .int) :: ws) ({ frames := 0, cells := 0, slots := 0, locals := 0 } : Room)) (fun a U => a = #[(.long (((4 : Int32).toInt64) * (((4 : Int32) - (1 : Int32)).toInt64)))] ∧ Z.Warmed39 U.vm ∧ U.heap = h0) (fun _ _ _ _ _ => True) (fun _ U o U' => ∃ v L, o = .returned v ∧ Q5x2 Z h0 n0 v U'.heap L ∧ FrameEnd U o U' L ({ frames := 0, cells := 0, slots := 0, locals := 0 } : Room).cells ({ frames := 0, cells := 0, slots := 0, locals := 0 } : Room).slots) := by
  refine MetFree.of_bodySF (Jvm.Free.JP.mathPlain rfl (by decide +kernel)) hisR ?_
  intro p e s m args below meth c s₁ Bd hml0 hP hK
  obtain ⟨rfl, hZ, hh⟩ := hP
  have hx := Bd.exec
  have hby := Bd.bytes
  have hml : c.maxLocals = 2 := hml0
  have hown : s.vm.findClass "java/lang/Math" = some m.cls := findClass_of_methodNamed Bd.named
  have hnm := (name_of_methodNamed Bd.named Bd.method).1
  have X0 : Stand p l e ({ frames := 0, cells := 0, slots := 0, locals := 0 } : Room) s m #[(.long (((4 : Int32).toInt64) * (((4 : Int32) - (1 : Int32)).toInt64)))] below meth c s₁ [] 0 0 := Stand.of_body Bd
  have e0 : s₁.heap = h0 := by rw [← hh, Bd.state]; rfl
  have N0 := Fr.nil n0
  have hS0 := hS
  skip
  have pre0 : ∀ t, Steps p.tables e below (s₁.setTop (mkF m 0 #[.val (.long (((4 : Int32).toInt64) * (((4 : Int32) - (1 : Int32)).toInt64))), .second] [])) t → Steps p.tables e below (s₁.setTop (entryFrame m #[(.long (((4 : Int32).toInt64) * (((4 : Int32) - (1 : Int32)).toInt64)))] 2)) t := fun t k => castTop (ef_5x2 m ) k
  generalize hE0 : s₁.setTop (entryFrame m #[(.long (((4 : Int32).toInt64) * (((4 : Int32) - (1 : Int32)).toInt64)))] 2) = E0 at pre0 ⊢
  obtain ⟨fs, hr, hrun, hended, hW, hsame⟩ := X0.leave (v := some (.int ((((4 : Int32).toInt64) * (((4 : Int32) - (1 : Int32)).toInt64)).toInt32))) (fun h => by rw [Bd.returns] at h; cases h)
  refine ⟨_, _, pre0 _ ?_, hrun, hended, _, _, rfl, ?_, ⟨_, rfl⟩, hW, hsame.mono (by decide) (by decide)⟩
  · show Sp p e below s₁ (mkF m 0 (lt8 (((4 : Int32).toInt64) * (((4 : Int32) - (1 : Int32)).toInt64))) []) _
    refine XS.lloadN X0.here hx rfl (hb hby d5_0) rfl ?_
    refine XS.l2i X0.here hx rfl (hb hby d5_1) rfl ?_
    show Sp p e below s₁ (mkF m 2 (lt8 (((4 : Int32).toInt64) * (((4 : Int32) - (1 : Int32)).toInt64))) [(.int ((((4 : Int32).toInt64) * (((4 : Int32) - (1 : Int32)).toInt64)).toInt32))]) _
    refine XS.i2l X0.here hx rfl (hb hby d5_2) rfl ?_
    refine XS.lloadN X0.here hx rfl (hb hby d5_3) rfl ?_
    show Sp p e below s₁ (mkF m 4 (lt8 (((4 : Int32).toInt64) * (((4 : Int32) - (1 : Int32)).toInt64))) [(.long (((4 : Int32).toInt64) * (((4 : Int32) - (1 : Int32)).toInt64))), (.long (((((4 : Int32).toInt64) * (((4 : Int32) - (1 : Int32)).toInt64)).toInt32).toInt64))]) _
    refine XS.lcmp X0.here hx rfl (hb hby d5_4) rfl ?_
    show Sp p e below s₁ (mkF m 5 (lt8 (((4 : Int32).toInt64) * (((4 : Int32) - (1 : Int32)).toInt64))) [(.int (lcmpW (((((4 : Int32).toInt64) * (((4 : Int32) - (1 : Int32)).toInt64)).toInt32).toInt64) (((4 : Int32).toInt64) * (((4 : Int32) - (1 : Int32)).toInt64))))]) _
    refine XS.ifYes X0.here hx rfl (pc0 := 5) (pc' := 18) rfl (hb hby d5_5) rfl ((if0 _ _).trans (teq (by decide : ((lcmpW (((((4 : Int32).toInt64) * (((4 : Int32) - (1 : Int32)).toInt64)).toInt32).toInt64) (((4 : Int32).toInt64) * (((4 : Int32) - (1 : Int32)).toInt64))) = (0 : Int32)))).1) (by decide) (by decide) ?_
    show Sp p e below s₁ (mkF m 18 (lt8 (((4 : Int32).toInt64) * (((4 : Int32) - (1 : Int32)).toInt64))) []) _
    refine XS.lloadN X0.here hx rfl (hb hby d5_18) rfl ?_
    refine XS.l2i X0.here hx rfl (hb hby d5_19) rfl ?_
    show Sp p e below s₁ (mkF m 20 (lt8 (((4 : Int32).toInt64) * (((4 : Int32) - (1 : Int32)).toInt64))) [(.int ((((4 : Int32).toInt64) * (((4 : Int32) - (1 : Int32)).toInt64)).toInt32))]) _
    exact retI X0 hx Bd.returns (hb hby d5_20) hr
  · show Q5x2 Z h0 n0 _ s₁.heap _
    rw [e0]
    exact ⟨rfl, N0, rfl⟩
def M0 : MM := [[0, 0, 0, 0], [3, 3, 3, 3], [0, 1, 2, 3], [1, 1, 1, 1], [0, 0, 0, 0], [0, 0, 0, 0], List.replicate 36 0, [0, 0, 0, 0, 0], [0, 0, 0, 0, 0, 0, 0, 0, 0, 0, 0, 0], [0], [0], [0], [0], [], [0, 0, 0, 0], [0, 0, 0, 0], [0, 0, 0, 0], [0, 0, 0, 0]]
theorem pn_2n2x1 : plainName "com/example/onetree/onetree/EdgeStates" = true := by first | (simp [plainName, overriddenIn]; done) | decide +kernel
theorem ef_2n2x1 (m : MethodId) (r0 : Addr) : entryFrame m #[(.ref r0), (.int (4 : Int32)), .null] 7 = mkF m 0 #[.val (.ref r0), .val (.int (4 : Int32)), .val .null, .unset, .unset, .unset, .unset] [] := by first | (simp [entryFrame, mkF, argsToLocals, Value.category]; done) | rfl
def Q2n2x1 (Z : State) (r0 : Addr) (h0 : Heap) (n0 : Nat) (v : Option Value) (h : Heap) (L : List Loc) : Prop := ∃ (A : Nat → Addr) (K : Nat → ClassId) (S0 : Addr), v = none ∧ Fr n0 L ∧ Old Z n0 h ∧ EB Z n0 false h r0 A K S0 4 M0
set_option maxRecDepth 65536 in
set_option maxHeartbeats 40000000 in
theorem rm2n2x1 (l : Launch) (Z : State) (a0 : Array Value) (hw : ∀ d ∈ tables_1, d.before a0 Z = true) (ws : List Jvm.Cond) (hS : StF Z) (r0 : Addr) (h0 : Heap) (n0 : Nat) (O0 : Old Z n0 h0) (g_r0 : n0 ≤ r0) (E_r0 : Exa Z h0 r0 "com/example/onetree/onetree/EdgeStates") (F_cities_r0 : Fld Z h0 r0 "com/example/onetree/onetree/EdgeStates" "cities" "I" (.int (0 : Int32))) (F_fixedEdges_r0 : Fld Z h0 r0 "com/example/onetree/onetree/EdgeStates" "fixedEdges" "[[I" .null) (F_forcedDegree_r0 : Fld Z h0 r0 "com/example/onetree/onetree/EdgeStates" "forcedDegree" "[I" .null) (F_isPending_r0 : Fld Z h0 r0 "com/example/onetree/onetree/EdgeStates" "isPending" "[Z" .null) (F_listStart_r0 : Fld Z h0 r0 "com/example/onetree/onetree/EdgeStates" "listStart" "[I" .null) (F_listed_r0 : Fld Z h0 r0 "com/example/onetree/onetree/EdgeStates" "listed" "Z" (.int (0 : Int32))) (F_neighbours_r0 : Fld Z h0 r0 "com/example/onetree/onetree/EdgeStates" "neighbours" "[I" .null) (F_openDegree_r0 : Fld Z h0 r0 "com/example/onetree/onetree/EdgeStates" "openDegree" "[I" .null) (F_otherEnd_r0 : Fld Z h0 r0 "com/example/onetree/onetree/EdgeStates" "otherEnd" "[I" .null) (F_pathSize_r0 : Fld Z h0 r0 "com/example/onetree/onetree/EdgeStates" "pathSize" "[I" .null) (F_pending_r0 : Fld Z h0 r0 "com/example/onetree/onetree/EdgeStates" "pending" "[I" .null) (F_pendingCount_r0 : Fld Z h0 r0 "com/example/onetree/onetree/EdgeStates" "pendingCount" "I" (.int (0 : Int32))) (F_pendingHead_r0 : Fld Z h0 r0 "com/example/onetree/onetree/EdgeStates" "pendingHead" "I" (.int (0 : Int32))) (F_states_r0 : Fld Z h0 r0 "com/example/onetree/onetree/EdgeStates" "states" "[[B" .null) (F_trail_r0 : Fld Z h0 r0 "com/example/onetree/onetree/EdgeStates" "trail" "[I" .null) (F_trailSize_r0 : Fld Z h0 r0 "com/example/onetree/onetree/EdgeStates" "trailSize" "I" (.int (0 : Int32))) :
    MetFree l Y11 (head1 (Jvm.Cond.code Y11 prog_7_method_3_code 7 none :: ws) ({ frames := 1, cells := 15, slots := 97, locals := 15 } : Room)) (fun a U => a = #[(.ref r0), (.int (4 : Int32)), .null] ∧ Z.Warmed39 U.vm ∧ U.heap = h0) (fun _ _ _ _ _ => True) (fun _ U o U' => ∃ v L, o = .returned v ∧ Q2n2x1 Z r0 h0 n0 v U'.heap L ∧ FrameEnd U o U' L ({ frames := 1, cells := 15, slots := 97, locals := 15 } : Room).cells ({ frames := 1, cells := 15, slots := 97, locals := 15 } : Room).slots) := by
  refine MetFree.of_bodySF (plainFor_of_name pn_2n2x1) hisR ?_
  intro p e s m args below meth c s₁ Bd hml0 hP hK
  obtain ⟨rfl, hZ, hh⟩ := hP
  have hx := Bd.exec
  have hby := Bd.bytes
  have hml : c.maxLocals = 7 := hml0
  have hown : s.vm.findClass "com/example/onetree/onetree/EdgeStates" = some m.cls := findClass_of_methodNamed Bd.named
  have hnm := (name_of_methodNamed Bd.named Bd.method).1
  have X0 : Stand p l e ({ frames := 1, cells := 15, slots := 97, locals := 15 } : Room) s m #[(.ref r0), (.int (4 : Int32)), .null] below meth c s₁ [] 0 0 := Stand.of_body Bd
  have e0 : s₁.heap = h0 := by rw [← hh, Bd.state]; rfl
  have N0 := Fr.nil n0
  have hS0 := hS
  skip
  have pre0 : ∀ t, Steps p.tables e below (s₁.setTop (mkF m 0 #[.val (.ref r0), .val (.int (4 : Int32)), .val .null, .unset, .unset, .unset, .unset] [])) t → Steps p.tables e below (s₁.setTop (entryFrame m #[(.ref r0), (.int (4 : Int32)), .null] 7)) t := fun t k => castTop (ef_2n2x1 m r0) k
  generalize hE0 : s₁.setTop (entryFrame m #[(.ref r0), (.int (4 : Int32)), .null] 7) = E0 at pre0 ⊢
  obtain ⟨T2, X2, e2, st2⟩ := initO X0 hx hZ hown (hw _ (tk 9 rfl)) (hw _ (tk 10 rfl)) (hw _ (tk 11 rfl)) e0 (g := (mkF m 1 (lt3 r0 (4 : Int32)) [(.ref r0)])) rfl (by rw [hml]; rfl) rfl (hb hby d2_1) (by decide) (W := 0) (by show 2 * 0 + _ ≤ _; exact Nat.le_of_eq rfl) (by decide)
  obtain ⟨T3, h3, X3, e3, W3, st3⟩ := putF X2 hx hZ hown (host := "") (Or.inl (hw _ (tk 12 rfl))) Via.refl e2 F_cities_r0 E_r0 (Or.inr ⟨(hw _ (tk 13 rfl)), rfl, hnm⟩) (hw _ (tk 1 rfl)) (ty := .int) (by decide) rfl rfl (g := (mkF m 6 (lt3 r0 (4 : Int32)) [(.int (4 : Int32)), (.ref r0)])) rfl rfl (hb hby d2_6)
  have Fw3 := F_cities_r0.same W3
  have O3 : Old Z n0 h3 := O0.wr W3 g_r0
  have N3 := Fr.snoc X3 N0 g_r0
  have K3 : Keep h0 h3 [r0] := (Keep.refl h0 [r0]).wr W3 (Or.inl (List.mem_of_getElem? (i := 0) rfl))
  have c4 := (E_r0.wr W3)
  obtain ⟨T5, h5, k5, X5, e5, E5, A5, EA5, OV5, st5⟩ := newRA X3 hx hZ hown (C := "[I") (ty := .int) rfl (hw _ (tk 14 rfl)) (hw _ (tk 15 rfl)) e3 (g := (mkF m 15 (lt3 r0 (4 : Int32)) [(.int (0 : Int32)), (.ref r0)])) rfl (hb hby d2_15) rfl (by decide) (cap := 0) (by decide) (by decide) (by decide) (by decide) (ad := "[[I") rfl
  obtain ⟨b5, g5⟩ : ∃ z, z = h3.size := ⟨_, rfl⟩
  rw [← g5] at A5 EA5 st5
  have g_b5 : n0 ≤ b5 := Nat.le_trans (own_old O3) (Nat.le_of_eq g5.symm)
  have sz_b5 : h0.size ≤ b5 := Nat.le_trans K3.1 (Nat.le_of_eq g5.symm)
  have ne_r0_b5 : r0 ≠ b5 := Nat.ne_of_lt (Nat.lt_of_lt_of_le c4.lt (Nat.le_of_eq g5.symm))
  have O5 : Old Z n0 h5 := O3.ext E5
  have K5 : Keep h0 h5 [r0] := K3.ext E5
  have V_b5 : Arv Z h5 b5 k5 (.array .int) (0 : Int32) [] .null := Arv.new A5 (by decide)
  have c6 := (c4.ext E5)
  have c7 := ((F_fixedEdges_r0.other W3 (Or.inr (slot_ne (Or.inr (hw _ (tk 17 rfl))) (Or.inr (hw _ (tk 13 rfl))) (by decide) (t := (.array (.array .int))) (t' := .int) (by decide) (by decide)))).ext E5)
  obtain ⟨T8, h8, X8, e8, W8, st8⟩ := putF X5 hx hZ hown (host := "") (Or.inl (hw _ (tk 16 rfl))) Via.refl e5 c7 c6 (Or.inr ⟨(hw _ (tk 17 rfl)), rfl, hnm⟩) (hw _ (tk 1 rfl)) (ty := (.array (.array .int))) (by decide) rfl rfl (g := (mkF m 25 (lt3 r0 (4 : Int32)) [(.ref b5), (.ref r0)])) rfl rfl (hb hby d2_25)
  have Fw8 := c7.same W8
  have O8 : Old Z n0 h8 := O5.wr W8 g_r0
  have N8 := Fr.snoc X8 N3 g_r0
  have K8 : Keep h0 h8 [r0] := K5.wr W8 (Or.inl (List.mem_of_getElem? (i := 0) rfl))
  have c9 := (c6.wr W8)
  have c10 := (V_b5.other W8 (Ne.symm ne_r0_b5))
  obtain ⟨T11, h11, k11, kc11, X11, e11, E11, VA11, OV11, EA11, Rw11, st11⟩ := gridM X8 hx hZ hown (C := "[B") (ad := "[[B") (ty := .byte) rfl rfl (hw _ (tk 18 rfl)) (hw _ (tk 19 rfl)) (hw _ (tk 20 rfl)) e8 (g := (mkF m 31 (lt3 r0 (4 : Int32)) [(.int (4 : Int32)), (.int (4 : Int32)), (.ref r0)])) rfl (hb hby d2_31) rfl (by decide) (by decide) (N := 4) rfl rfl (cap := 4) (by decide) (by decide) (by decide) rfl rfl (by decide) (by decide)
  obtain ⟨b11r0, gb11r0⟩ : ∃ z, z = h8.size + 1 + 0 := ⟨_, rfl⟩
  obtain ⟨b11r1, gb11r1⟩ : ∃ z, z = h8.size + 1 + 1 := ⟨_, rfl⟩
  obtain ⟨b11r2, gb11r2⟩ : ∃ z, z = h8.size + 1 + 2 := ⟨_, rfl⟩
  obtain ⟨b11r3, gb11r3⟩ : ∃ z, z = h8.size + 1 + 3 := ⟨_, rfl⟩
  have Ab11r0 : Arr Z h11 b11r0 (newA kc11 .byte (4 : Int32)) .byte := by rw [gb11r0]; exact (Rw11 0 _ rfl).1
  have Ab11r1 : Arr Z h11 b11r1 (newA kc11 .byte (4 : Int32)) .byte := by rw [gb11r1]; exact (Rw11 1 _ rfl).1
  have Ab11r2 : Arr Z h11 b11r2 (newA kc11 .byte (4 : Int32)) .byte := by rw [gb11r2]; exact (Rw11 2 _ rfl).1
  have Ab11r3 : Arr Z h11 b11r3 (newA kc11 .byte (4 : Int32)) .byte := by rw [gb11r3]; exact (Rw11 3 _ rfl).1
  obtain ⟨b11, g11⟩ : ∃ z, z = h8.size := ⟨_, rfl⟩
  rw [← g11] at st11
  have g_b11 : n0 ≤ b11 := Nat.le_trans (own_old O8) (Nat.le_of_eq g11.symm)
  have sz_b11 : h0.size ≤ b11 := Nat.le_trans K8.1 (Nat.le_of_eq g11.symm)
  have ne_r0_b11 : r0 ≠ b11 := Nat.ne_of_lt (Nat.lt_of_lt_of_le c9.lt (Nat.le_of_eq g11.symm))
  have ne_b5_b11 : b5 ≠ b11 := Nat.ne_of_lt (Nat.lt_of_lt_of_le c10.lt (Nat.le_of_eq g11.symm))
  have VB11 : Arv Z h11 b11 k11 (.array .byte) (4 : Int32) [(.ref b11r0), (.ref b11r1), (.ref b11r2), (.ref b11r3)] .null := by rw [g11, gb11r0, gb11r1, gb11r2, gb11r3]; exact VA11
  have le_b11r0 : h8.size ≤ b11r0 := by rw [gb11r0]; exact Nat.le_trans (Nat.le_add_right _ 1) (Nat.le_add_right _ _)
  have g_b11r0 : n0 ≤ b11r0 := Nat.le_trans (own_old O8) le_b11r0
  have sz_b11r0 : h0.size ≤ b11r0 := Nat.le_trans K8.1 le_b11r0
  have ne_r0_b11r0 : r0 ≠ b11r0 := Nat.ne_of_lt (Nat.lt_of_lt_of_le c9.lt le_b11r0)
  have ne_b5_b11r0 : b5 ≠ b11r0 := Nat.ne_of_lt (Nat.lt_of_lt_of_le c10.lt le_b11r0)
  have ne_b11_b11r0 : b11 ≠ b11r0 := Nat.ne_of_lt (by rw [g11, gb11r0]; exact Nat.lt_of_lt_of_le (Nat.lt_succ_self _) (Nat.le_add_right _ _))
  have le_b11r1 : h8.size ≤ b11r1 := by rw [gb11r1]; exact Nat.le_trans (Nat.le_add_right _ 1) (Nat.le_add_right _ _)
  have g_b11r1 : n0 ≤ b11r1 := Nat.le_trans (own_old O8) le_b11r1
  have sz_b11r1 : h0.size ≤ b11r1 := Nat.le_trans K8.1 le_b11r1
  have ne_r0_b11r1 : r0 ≠ b11r1 := Nat.ne_of_lt (Nat.lt_of_lt_of_le c9.lt le_b11r1)
  have ne_b5_b11r1 : b5 ≠ b11r1 := Nat.ne_of_lt (Nat.lt_of_lt_of_le c10.lt le_b11r1)
  have ne_b11_b11r1 : b11 ≠ b11r1 := Nat.ne_of_lt (by rw [g11, gb11r1]; exact Nat.lt_of_lt_of_le (Nat.lt_succ_self _) (Nat.le_add_right _ _))
  have ne_b11r0_b11r1 : b11r0 ≠ b11r1 := Nat.ne_of_lt (by rw [gb11r0, gb11r1]; exact Nat.add_lt_add_left (by decide) _)
  have le_b11r2 : h8.size ≤ b11r2 := by rw [gb11r2]; exact Nat.le_trans (Nat.le_add_right _ 1) (Nat.le_add_right _ _)
  have g_b11r2 : n0 ≤ b11r2 := Nat.le_trans (own_old O8) le_b11r2
  have sz_b11r2 : h0.size ≤ b11r2 := Nat.le_trans K8.1 le_b11r2
  have ne_r0_b11r2 : r0 ≠ b11r2 := Nat.ne_of_lt (Nat.lt_of_lt_of_le c9.lt le_b11r2)
  have ne_b5_b11r2 : b5 ≠ b11r2 := Nat.ne_of_lt (Nat.lt_of_lt_of_le c10.lt le_b11r2)
  have ne_b11_b11r2 : b11 ≠ b11r2 := Nat.ne_of_lt (by rw [g11, gb11r2]; exact Nat.lt_of_lt_of_le (Nat.lt_succ_self _) (Nat.le_add_right _ _))
  have ne_b11r0_b11r2 : b11r0 ≠ b11r2 := Nat.ne_of_lt (by rw [gb11r0, gb11r2]; exact Nat.add_lt_add_left (by decide) _)
  have ne_b11r1_b11r2 : b11r1 ≠ b11r2 := Nat.ne_of_lt (by rw [gb11r1, gb11r2]; exact Nat.add_lt_add_left (by decide) _)
  have le_b11r3 : h8.size ≤ b11r3 := by rw [gb11r3]; exact Nat.le_trans (Nat.le_add_right _ 1) (Nat.le_add_right _ _)
  have g_b11r3 : n0 ≤ b11r3 := Nat.le_trans (own_old O8) le_b11r3
  have sz_b11r3 : h0.size ≤ b11r3 := Nat.le_trans K8.1 le_b11r3
  have ne_r0_b11r3 : r0 ≠ b11r3 := Nat.ne_of_lt (Nat.lt_of_lt_of_le c9.lt le_b11r3)
  have ne_b5_b11r3 : b5 ≠ b11r3 := Nat.ne_of_lt (Nat.lt_of_lt_of_le c10.lt le_b11r3)
  have ne_b11_b11r3 : b11 ≠ b11r3 := Nat.ne_of_lt (by rw [g11, gb11r3]; exact Nat.lt_of_lt_of_le (Nat.lt_succ_self _) (Nat.le_add_right _ _))
  have ne_b11r0_b11r3 : b11r0 ≠ b11r3 := Nat.ne_of_lt (by rw [gb11r0, gb11r3]; exact Nat.add_lt_add_left (by decide) _)
  have ne_b11r1_b11r3 : b11r1 ≠ b11r3 := Nat.ne_of_lt (by rw [gb11r1, gb11r3]; exact Nat.add_lt_add_left (by decide) _)
  have ne_b11r2_b11r3 : b11r2 ≠ b11r3 := Nat.ne_of_lt (by rw [gb11r2, gb11r3]; exact Nat.add_lt_add_left (by decide) _)
  have O11 : Old Z n0 h11 := O8.ext E11
  have K11 : Keep h0 h11 [r0] := K8.ext E11
  have V_b11r0 : Arv Z h11 b11r0 kc11 .byte (4 : Int32) [(.int (0 : Int32)), (.int (0 : Int32)), (.int (0 : Int32)), (.int (0 : Int32))] (.int (0 : Int32)) := (Arv.new Ab11r0 (by decide)).pad (pad_rep [] (.int (0 : Int32)) 4)
  have V_b11r1 : Arv Z h11 b11r1 kc11 .byte (4 : Int32) [(.int (0 : Int32)), (.int (0 : Int32)), (.int (0 : Int32)), (.int (0 : Int32))] (.int (0 : Int32)) := (Arv.new Ab11r1 (by decide)).pad (pad_rep [] (.int (0 : Int32)) 4)
  have V_b11r2 : Arv Z h11 b11r2 kc11 .byte (4 : Int32) [(.int (0 : Int32)), (.int (0 : Int32)), (.int (0 : Int32)), (.int (0 : Int32))] (.int (0 : Int32)) := (Arv.new Ab11r2 (by decide)).pad (pad_rep [] (.int (0 : Int32)) 4)
  have V_b11r3 : Arv Z h11 b11r3 kc11 .byte (4 : Int32) [(.int (0 : Int32)), (.int (0 : Int32)), (.int (0 : Int32)), (.int (0 : Int32))] (.int (0 : Int32)) := (Arv.new Ab11r3 (by decide)).pad (pad_rep [] (.int (0 : Int32)) 4)
  have c12 := (c9.ext E11)
  have c13 := ((((F_states_r0.other W3 (Or.inr (slot_ne (Or.inr (hw _ (tk 22 rfl))) (Or.inr (hw _ (tk 13 rfl))) (by decide) (t := (.array (.array .byte))) (t' := .int) (by decide) (by decide)))).ext E5).other W8 (Or.inr (slot_ne (Or.inr (hw _ (tk 22 rfl))) (Or.inr (hw _ (tk 17 rfl))) (by decide) (t := (.array (.array .byte))) (t' := (.array (.array .int))) (by decide) (by decide)))).ext E11)
  obtain ⟨T14, h14, X14, e14, W14, st14⟩ := putF X11 hx hZ hown (host := "") (Or.inl (hw _ (tk 21 rfl))) Via.refl e11 c13 c12 (Or.inr ⟨(hw _ (tk 22 rfl)), rfl, hnm⟩) (hw _ (tk 1 rfl)) (ty := (.array (.array .byte))) (by decide) rfl rfl (g := (mkF m 35 (lt3 r0 (4 : Int32)) [(.ref b11), (.ref r0)])) rfl rfl (hb hby d2_35)
  have Fw14 := c13.same W14
  have O14 : Old Z n0 h14 := O11.wr W14 g_r0
  have N14 := Fr.snoc X14 N8 g_r0
  have K14 : Keep h0 h14 [r0] := K11.wr W14 (Or.inl (List.mem_of_getElem? (i := 0) rfl))
  have c15 := (c12.wr W14)
  have c16 := ((c10.ext E11).other W14 (Ne.symm ne_r0_b5))
  have c17 := (VB11.other W14 (Ne.symm ne_r0_b11))
  have c18 := (V_b11r0.other W14 (Ne.symm ne_r0_b11r0))
  have c19 := (V_b11r1.other W14 (Ne.symm ne_r0_b11r1))
  have c20 := (V_b11r2.other W14 (Ne.symm ne_r0_b11r2))
  have c21 := (V_b11r3.other W14 (Ne.symm ne_r0_b11r3))
  obtain ⟨T22, h22, k22, X22, e22, E22, A22, st22⟩ := newP X14 hx hZ (hw _ (tk 23 rfl)) e14 (g := (mkF m 40 (lt3 r0 (4 : Int32)) [(.int (4 : Int32)), (.ref r0)])) rfl (hb hby d2_40) rfl (by decide) (cap := 4) (by decide) (by decide) (by decide) (by decide)
  obtain ⟨b22, g22⟩ : ∃ z, z = h14.size := ⟨_, rfl⟩
  rw [← g22] at A22 st22
  have g_b22 : n0 ≤ b22 := Nat.le_trans (own_old O14) (Nat.le_of_eq g22.symm)
  have sz_b22 : h0.size ≤ b22 := Nat.le_trans K14.1 (Nat.le_of_eq g22.symm)
  have ne_r0_b22 : r0 ≠ b22 := Nat.ne_of_lt (Nat.lt_of_lt_of_le c15.lt (Nat.le_of_eq g22.symm))
  have ne_b5_b22 : b5 ≠ b22 := Nat.ne_of_lt (Nat.lt_of_lt_of_le c16.lt (Nat.le_of_eq g22.symm))
  have ne_b11_b22 : b11 ≠ b22 := Nat.ne_of_lt (Nat.lt_of_lt_of_le c17.lt (Nat.le_of_eq g22.symm))
  have ne_b11r0_b22 : b11r0 ≠ b22 := Nat.ne_of_lt (Nat.lt_of_lt_of_le c18.lt (Nat.le_of_eq g22.symm))
  have ne_b11r1_b22 : b11r1 ≠ b22 := Nat.ne_of_lt (Nat.lt_of_lt_of_le c19.lt (Nat.le_of_eq g22.symm))
  have ne_b11r2_b22 : b11r2 ≠ b22 := Nat.ne_of_lt (Nat.lt_of_lt_of_le c20.lt (Nat.le_of_eq g22.symm))
  have ne_b11r3_b22 : b11r3 ≠ b22 := Nat.ne_of_lt (Nat.lt_of_lt_of_le c21.lt (Nat.le_of_eq g22.symm))
  have O22 : Old Z n0 h22 := O14.ext E22
  have K22 : Keep h0 h22 [r0] := K14.ext E22
  have V_b22 : Arv Z h22 b22 k22 .int (4 : Int32) [(.int (0 : Int32)), (.int (0 : Int32)), (.int (0 : Int32)), (.int (0 : Int32))] (.int (0 : Int32)) := (Arv.new A22 (by decide)).pad (pad_rep [] (.int (0 : Int32)) 4)
  have c23 := (c15.ext E22)
  have c24 := ((((F_forcedDegree_r0.other W3 (Or.inr (slot_ne (Or.inr (hw _ (tk 25 rfl))) (Or.inr (hw _ (tk 13 rfl))) (by decide) (t := (.array .int)) (t' := .int) (by decide) (by decide)))).ext E5).other W8 (Or.inr (slot_ne (Or.inr (hw _ (tk 25 rfl))) (Or.inr (hw _ (tk 17 rfl))) (by decide) (t := (.array .int)) (t' := (.array (.array .int))) (by decide) (by decide)))).ext E11)
  have c25 := ((c24.other W14 (Or.inr (slot_ne (Or.inr (hw _ (tk 25 rfl))) (Or.inr (hw _ (tk 22 rfl))) (by decide) (t := (.array .int)) (t' := (.array (.array .byte))) (by decide) (by decide)))).ext E22)
  obtain ⟨T26, h26, X26, e26, W26, st26⟩ := putF X22 hx hZ hown (host := "") (Or.inl (hw _ (tk 24 rfl))) Via.refl e22 c25 c23 (Or.inr ⟨(hw _ (tk 25 rfl)), rfl, hnm⟩) (hw _ (tk 1 rfl)) (ty := (.array .int)) (by decide) rfl rfl (g := (mkF m 42 (lt3 r0 (4 : Int32)) [(.ref b22), (.ref r0)])) rfl rfl (hb hby d2_42)
  have Fw26 := c25.same W26
  have O26 : Old Z n0 h26 := O22.wr W26 g_r0
  have N26 := Fr.snoc X26 N14 g_r0
  have K26 : Keep h0 h26 [r0] := K22.wr W26 (Or.inl (List.mem_of_getElem? (i := 0) rfl))
  have c27 := (c23.wr W26)
  have c28 := ((c16.ext E22).other W26 (Ne.symm ne_r0_b5))
  have c29 := ((c17.ext E22).other W26 (Ne.symm ne_r0_b11))
  have c30 := ((c18.ext E22).other W26 (Ne.symm ne_r0_b11r0))
  have c31 := ((c19.ext E22).other W26 (Ne.symm ne_r0_b11r1))
  have c32 := ((c20.ext E22).other W26 (Ne.symm ne_r0_b11r2))
  have c33 := ((c21.ext E22).other W26 (Ne.symm ne_r0_b11r3))
  have c34 := (V_b22.other W26 (Ne.symm ne_r0_b22))
  obtain ⟨T35, h35, k35, X35, e35, E35, A35, st35⟩ := newP X26 hx hZ (hw _ (tk 23 rfl)) e26 (g := (mkF m 47 (lt3 r0 (4 : Int32)) [(.int (4 : Int32)), (.ref r0)])) rfl (hb hby d2_47) rfl (by decide) (cap := 4) (by decide) (by decide) (by decide) (by decide)
  obtain ⟨b35, g35⟩ : ∃ z, z = h26.size := ⟨_, rfl⟩
  rw [← g35] at A35 st35
  have g_b35 : n0 ≤ b35 := Nat.le_trans (own_old O26) (Nat.le_of_eq g35.symm)
  have sz_b35 : h0.size ≤ b35 := Nat.le_trans K26.1 (Nat.le_of_eq g35.symm)
  have ne_r0_b35 : r0 ≠ b35 := Nat.ne_of_lt (Nat.lt_of_lt_of_le c27.lt (Nat.le_of_eq g35.symm))
  have ne_b5_b35 : b5 ≠ b35 := Nat.ne_of_lt (Nat.lt_of_lt_of_le c28.lt (Nat.le_of_eq g35.symm))
  have ne_b11_b35 : b11 ≠ b35 := Nat.ne_of_lt (Nat.lt_of_lt_of_le c29.lt (Nat.le_of_eq g35.symm))
  have ne_b11r0_b35 : b11r0 ≠ b35 := Nat.ne_of_lt (Nat.lt_of_lt_of_le c30.lt (Nat.le_of_eq g35.symm))
  have ne_b11r1_b35 : b11r1 ≠ b35 := Nat.ne_of_lt (Nat.lt_of_lt_of_le c31.lt (Nat.le_of_eq g35.symm))
  have ne_b11r2_b35 : b11r2 ≠ b35 := Nat.ne_of_lt (Nat.lt_of_lt_of_le c32.lt (Nat.le_of_eq g35.symm))
  have ne_b11r3_b35 : b11r3 ≠ b35 := Nat.ne_of_lt (Nat.lt_of_lt_of_le c33.lt (Nat.le_of_eq g35.symm))
  have ne_b22_b35 : b22 ≠ b35 := Nat.ne_of_lt (Nat.lt_of_lt_of_le c34.lt (Nat.le_of_eq g35.symm))
  have O35 : Old Z n0 h35 := O26.ext E35
  have K35 : Keep h0 h35 [r0] := K26.ext E35
  have V_b35 : Arv Z h35 b35 k35 .int (4 : Int32) [(.int (0 : Int32)), (.int (0 : Int32)), (.int (0 : Int32)), (.int (0 : Int32))] (.int (0 : Int32)) := (Arv.new A35 (by decide)).pad (pad_rep [] (.int (0 : Int32)) 4)
  have c36 := (c27.ext E35)
  have c37 := ((((F_openDegree_r0.other W3 (Or.inr (slot_ne (Or.inr (hw _ (tk 27 rfl))) (Or.inr (hw _ (tk 13 rfl))) (by decide) (t := (.array .int)) (t' := .int) (by decide) (by decide)))).ext E5).other W8 (Or.inr (slot_ne (Or.inr (hw _ (tk 27 rfl))) (Or.inr (hw _ (tk 17 rfl))) (by decide) (t := (.array .int)) (t' := (.array (.array .int))) (by decide) (by decide)))).ext E11)
  have c38 := ((((c37.other W14 (Or.inr (slot_ne (Or.inr (hw _ (tk 27 rfl))) (Or.inr (hw _ (tk 22 rfl))) (by decide) (t := (.array .int)) (t' := (.array (.array .byte))) (by decide) (by decide)))).ext E22).other W26 (Or.inr (slot_ne (Or.inr (hw _ (tk 27 rfl))) (Or.inr (hw _ (tk 25 rfl))) (by decide) (t := (.array .int)) (t' := (.array .int)) (by decide) (by decide)))).ext E35)
  obtain ⟨T39, h39, X39, e39, W39, st39⟩ := putF X35 hx hZ hown (host := "") (Or.inl (hw _ (tk 26 rfl))) Via.refl e35 c38 c36 (Or.inr ⟨(hw _ (tk 27 rfl)), rfl, hnm⟩) (hw _ (tk 1 rfl)) (ty := (.array .int)) (by decide) rfl rfl (g := (mkF m 49 (lt3 r0 (4 : Int32)) [(.ref b35), (.ref r0)])) rfl rfl (hb hby d2_49)
  have Fw39 := c38.same W39
  have O39 : Old Z n0 h39 := O35.wr W39 g_r0
  have N39 := Fr.snoc X39 N26 g_r0
  have K39 : Keep h0 h39 [r0] := K35.wr W39 (Or.inl (List.mem_of_getElem? (i := 0) rfl))
  obtain ⟨T40, X40, e40, st40⟩ := getF X39 hx hZ hown (host := "") (Or.inl (hw _ (tk 26 rfl))) Via.refl e39 Fw39 (g := (mkF m 53 (lt3 r0 (4 : Int32)) [(.ref r0)])) rfl rfl (hb hby d2_53)
  have c50 := (V_b35.other W39 (Ne.symm ne_r0_b35))
  obtain ⟨_, _, ⟨T51, L51, k51, n51⟩, -, X51, ⟨Lc51, hQ51, l51, y51, z51⟩, st51⟩ := Jvm.LawKit.callS X40 hx (y := Y6) hown (mvT hZ (hw _ (tk 28 rfl))) (mvT hZ (hw _ (tk 29 rfl))) (mvT hZ (hw _ (tk 30 rfl))) (mvT hZ (hw _ (tk 31 rfl))) (by decide) (backOf (W := 0) (rm4x1 l Z a0 hw [] hS0 b35 k35 h39 n0 O39 g_b35 c50) hZ (hw _ (tk 31 rfl)) (hw _ (tk 30 rfl)) (by decide) (by decide)) (g := (mkF m 59 (lt3 r0 (4 : Int32)) [(.int ((4 : Int32) - (1 : Int32))), (.ref b35)])) rfl (by rw [hml]; rfl) (argsL := [(.ref b35), (.int ((4 : Int32) - (1 : Int32)))]) (rest := []) (lenOf pd_0 rfl) rfl (by show 2 * 0 + _ ≤ _; exact Nat.le_of_eq rfl) (hb hby d2_59) (fun _ _ => ⟨rfl, e40, (by decide : 8 + 0 ≤ _), (by decide : 28 + 0 ≤ _)⟩)
  dsimp only [Pt.U, Pt.locs, Pt.cells, Pt.slots] at X51 l51 y51 z51 st51 hQ51
  rw [l51, y51, z51] at X51
  obtain ⟨rv51, N51q, O51, K51c, Fe51_0⟩ := hQ51
  subst rv51
  have N51 := Fr.app N39 N51q
  have K51 : Keep h0 T51.heap [r0] := K39.trans K51c (allS (Or.inr sz_b35) all0)
  obtain ⟨_, _, ⟨T52, L52, k52, n52⟩, -, X52, ⟨Lc52, hQ52, l52, y52, z52⟩, st52⟩ := Jvm.LawKit.callS X51 hx (y := Y9) hown (mvT hZ (hw _ (tk 33 rfl))) (mvT hZ (hw _ (tk 34 rfl))) (mvT hZ (hw _ (tk 35 rfl))) (mvT hZ (hw _ (tk 36 rfl))) (by decide) (backOf (W := 1) (rm5x1 l Z a0 hw [] hS0 T51.heap n0 O51) hZ (hw _ (tk 36 rfl)) (hw _ (tk 35 rfl)) (by decide) (by decide)) (g := (mkF m 177 (lt7 r0 (4 : Int32) (((4 : Int32).toInt64) * (((4 : Int32) - (1 : Int32)).toInt64))) [(.long ((((4 : Int32).toInt64) * (((4 : Int32) - (1 : Int32)).toInt64)) + ((6 : Int64) * ((4 : Int32).toInt64)))), (.ref r0)])) rfl (by rw [hml]; rfl) (argsL := [(.long ((((4 : Int32).toInt64) * (((4 : Int32) - (1 : Int32)).toInt64)) + ((6 : Int64) * ((4 : Int32).toInt64))))]) (rest := [(.ref r0)]) (lenOf pd_1 rfl) rfl (by show 2 * 0 + _ ≤ _; exact Nat.le_of_eq rfl) (hb hby d2_177) (fun _ _ => ⟨rfl, rfl, (by decide : 8 + 0 ≤ _), (by decide : 28 + 0 ≤ _)⟩)
  dsimp only [Pt.U, Pt.locs, Pt.cells, Pt.slots] at X52 l52 y52 z52 st52 hQ52
  rw [l52, y52, z52] at X52
  obtain ⟨rv52, N52q, e52⟩ := hQ52
  subst rv52
  have N52 := Fr.app N51 N52q
  have c53 := ((c36.wr W39).keep K51c)
  have c54 := (((c28.ext E35).other W39 (Ne.symm ne_r0_b5)).keep K51c (ninS ne_b5_b35 nin0))
  have c55 := (((c29.ext E35).other W39 (Ne.symm ne_r0_b11)).keep K51c (ninS ne_b11_b35 nin0))
  have c56 := (((c30.ext E35).other W39 (Ne.symm ne_r0_b11r0)).keep K51c (ninS ne_b11r0_b35 nin0))
  have c57 := (((c31.ext E35).other W39 (Ne.symm ne_r0_b11r1)).keep K51c (ninS ne_b11r1_b35 nin0))
  have c58 := (((c32.ext E35).other W39 (Ne.symm ne_r0_b11r2)).keep K51c (ninS ne_b11r2_b35 nin0))
  have c59 := (((c33.ext E35).other W39 (Ne.symm ne_r0_b11r3)).keep K51c (ninS ne_b11r3_b35 nin0))
  have c60 := (((c34.ext E35).other W39 (Ne.symm ne_r0_b22)).keep K51c (ninS ne_b22_b35 nin0))
  obtain ⟨T61, h61, k61, X61, e61, E61, A61, st61⟩ := newP X52 hx hZ (hw _ (tk 23 rfl)) e52 (g := (mkF m 180 (lt7 r0 (4 : Int32) (((4 : Int32).toInt64) * (((4 : Int32) - (1 : Int32)).toInt64))) [(.int (((((4 : Int32).toInt64) * (((4 : Int32) - (1 : Int32)).toInt64)) + ((6 : Int64) * ((4 : Int32).toInt64))).toInt32)), (.ref r0)])) rfl (hb hby d2_180) rfl (by decide) (cap := 36) (by decide) (by decide) (by decide) (by decide)
  obtain ⟨b61, g61⟩ : ∃ z, z = T51.heap.size := ⟨_, rfl⟩
  rw [← g61] at A61 st61
  have g_b61 : n0 ≤ b61 := Nat.le_trans (own_old O51) (Nat.le_of_eq g61.symm)
  have sz_b61 : h0.size ≤ b61 := Nat.le_trans K51.1 (Nat.le_of_eq g61.symm)
  have ne_r0_b61 : r0 ≠ b61 := Nat.ne_of_lt (Nat.lt_of_lt_of_le c53.lt (Nat.le_of_eq g61.symm))
  have ne_b5_b61 : b5 ≠ b61 := Nat.ne_of_lt (Nat.lt_of_lt_of_le c54.lt (Nat.le_of_eq g61.symm))
  have ne_b11_b61 : b11 ≠ b61 := Nat.ne_of_lt (Nat.lt_of_lt_of_le c55.lt (Nat.le_of_eq g61.symm))
  have ne_b11r0_b61 : b11r0 ≠ b61 := Nat.ne_of_lt (Nat.lt_of_lt_of_le c56.lt (Nat.le_of_eq g61.symm))
  have ne_b11r1_b61 : b11r1 ≠ b61 := Nat.ne_of_lt (Nat.lt_of_lt_of_le c57.lt (Nat.le_of_eq g61.symm))
  have ne_b11r2_b61 : b11r2 ≠ b61 := Nat.ne_of_lt (Nat.lt_of_lt_of_le c58.lt (Nat.le_of_eq g61.symm))
  have ne_b11r3_b61 : b11r3 ≠ b61 := Nat.ne_of_lt (Nat.lt_of_lt_of_le c59.lt (Nat.le_of_eq g61.symm))
  have ne_b22_b61 : b22 ≠ b61 := Nat.ne_of_lt (Nat.lt_of_lt_of_le c60.lt (Nat.le_of_eq g61.symm))
  have ne_b35_b61 : b35 ≠ b61 := Nat.ne_of_lt (Nat.lt_of_lt_of_le Fe51_0.lt (Nat.le_of_eq g61.symm))
  have O61 : Old Z n0 h61 := O51.ext E61
  have K61 : Keep h0 h61 [r0] := K51.ext E61
  have V_b61 : Arh Z h61 b61 k61 .int (((((4 : Int32).toInt64) * (((4 : Int32) - (1 : Int32)).toInt64)) + ((6 : Int64) * ((4 : Int32).toInt64))).toInt32) [] [] (.int (0 : Int32)) := (Arv.new A61 (by decide)).arh
  have c62 := (c53.ext E61)
  have c63 := ((((F_trail_r0.other W3 (Or.inr (slot_ne (Or.inr (hw _ (tk 38 rfl))) (Or.inr (hw _ (tk 13 rfl))) (by decide) (t := (.array .int)) (t' := .int) (by decide) (by decide)))).ext E5).other W8 (Or.inr (slot_ne (Or.inr (hw _ (tk 38 rfl))) (Or.inr (hw _ (tk 17 rfl))) (by decide) (t := (.array .int)) (t' := (.array (.array .int))) (by decide) (by decide)))).ext E11)
  have c64 := (((((c63.other W14 (Or.inr (slot_ne (Or.inr (hw _ (tk 38 rfl))) (Or.inr (hw _ (tk 22 rfl))) (by decide) (t := (.array .int)) (t' := (.array (.array .byte))) (by decide) (by decide)))).ext E22).other W26 (Or.inr (slot_ne (Or.inr (hw _ (tk 38 rfl))) (Or.inr (hw _ (tk 25 rfl))) (by decide) (t := (.array .int)) (t' := (.array .int)) (by decide) (by decide)))).ext E35).other W39 (Or.inr (slot_ne (Or.inr (hw _ (tk 38 rfl))) (Or.inr (hw _ (tk 27 rfl))) (by decide) (t := (.array .int)) (t' := (.array .int)) (by decide) (by decide))))
  have c65 := ((c64.keep K51c (ninS ne_r0_b35 nin0)).ext E61)
  obtain ⟨T66, h66, X66, e66, W66, st66⟩ := putF X61 hx hZ hown (host := "") (Or.inl (hw _ (tk 37 rfl))) Via.refl e61 c65 c62 (Or.inr ⟨(hw _ (tk 38 rfl)), rfl, hnm⟩) (hw _ (tk 1 rfl)) (ty := (.array .int)) (by decide) rfl rfl (g := (mkF m 182 (lt7 r0 (4 : Int32) (((4 : Int32).toInt64) * (((4 : Int32) - (1 : Int32)).toInt64))) [(.ref b61), (.ref r0)])) rfl rfl (hb hby d2_182)
  have Fw66 := c65.same W66
  have O66 : Old Z n0 h66 := O61.wr W66 g_r0
  have N66 := Fr.snoc X66 N52 g_r0
  have K66 : Keep h0 h66 [r0] := K61.wr W66 (Or.inl (List.mem_of_getElem? (i := 0) rfl))
  have c67 := (c62.wr W66)
  have c68 := ((c54.ext E61).other W66 (Ne.symm ne_r0_b5))
  have c69 := ((c55.ext E61).other W66 (Ne.symm ne_r0_b11))
  have c70 := ((c56.ext E61).other W66 (Ne.symm ne_r0_b11r0))
  have c71 := ((c57.ext E61).other W66 (Ne.symm ne_r0_b11r1))
  have c72 := ((c58.ext E61).other W66 (Ne.symm ne_r0_b11r2))
  have c73 := ((c59.ext E61).other W66 (Ne.symm ne_r0_b11r3))
  have c74 := ((c60.ext E61).other W66 (Ne.symm ne_r0_b22))
  have c75 := ((Fe51_0.ext E61).other W66 (Ne.symm ne_r0_b35))
  have c76 := (V_b61.other W66 (Ne.symm ne_r0_b61))
  obtain ⟨T77, h77, k77, X77, e77, E77, A77, st77⟩ := newP X66 hx hZ (hw _ (tk 23 rfl)) e66 (g := (mkF m 187 (lt7 r0 (4 : Int32) (((4 : Int32).toInt64) * (((4 : Int32) - (1 : Int32)).toInt64))) [(.int (4 : Int32)), (.ref r0)])) rfl (hb hby d2_187) rfl (by decide) (cap := 4) (by decide) (by decide) (by decide) (by decide)
  obtain ⟨b77, g77⟩ : ∃ z, z = h66.size := ⟨_, rfl⟩
  rw [← g77] at A77 st77
  have g_b77 : n0 ≤ b77 := Nat.le_trans (own_old O66) (Nat.le_of_eq g77.symm)
  have sz_b77 : h0.size ≤ b77 := Nat.le_trans K66.1 (Nat.le_of_eq g77.symm)
  have ne_r0_b77 : r0 ≠ b77 := Nat.ne_of_lt (Nat.lt_of_lt_of_le c67.lt (Nat.le_of_eq g77.symm))
  have ne_b5_b77 : b5 ≠ b77 := Nat.ne_of_lt (Nat.lt_of_lt_of_le c68.lt (Nat.le_of_eq g77.symm))
  have ne_b11_b77 : b11 ≠ b77 := Nat.ne_of_lt (Nat.lt_of_lt_of_le c69.lt (Nat.le_of_eq g77.symm))
  have ne_b11r0_b77 : b11r0 ≠ b77 := Nat.ne_of_lt (Nat.lt_of_lt_of_le c70.lt (Nat.le_of_eq g77.symm))
  have ne_b11r1_b77 : b11r1 ≠ b77 := Nat.ne_of_lt (Nat.lt_of_lt_of_le c71.lt (Nat.le_of_eq g77.symm))
  have ne_b11r2_b77 : b11r2 ≠ b77 := Nat.ne_of_lt (Nat.lt_of_lt_of_le c72.lt (Nat.le_of_eq g77.symm))
  have ne_b11r3_b77 : b11r3 ≠ b77 := Nat.ne_of_lt (Nat.lt_of_lt_of_le c73.lt (Nat.le_of_eq g77.symm))
  have ne_b22_b77 : b22 ≠ b77 := Nat.ne_of_lt (Nat.lt_of_lt_of_le c74.lt (Nat.le_of_eq g77.symm))
  have ne_b35_b77 : b35 ≠ b77 := Nat.ne_of_lt (Nat.lt_of_lt_of_le c75.lt (Nat.le_of_eq g77.symm))
  have ne_b61_b77 : b61 ≠ b77 := Nat.ne_of_lt (Nat.lt_of_lt_of_le c76.lt (Nat.le_of_eq g77.symm))
  have O77 : Old Z n0 h77 := O66.ext E77
  have K77 : Keep h0 h77 [r0] := K66.ext E77
  have V_b77 : Arv Z h77 b77 k77 .int (4 : Int32) [(.int (0 : Int32)), (.int (0 : Int32)), (.int (0 : Int32)), (.int (0 : Int32))] (.int (0 : Int32)) := (Arv.new A77 (by decide)).pad (pad_rep [] (.int (0 : Int32)) 4)
  have c78 := (c67.ext E77)
  have c79 := ((((F_otherEnd_r0.other W3 (Or.inr (slot_ne (Or.inr (hw _ (tk 40 rfl))) (Or.inr (hw _ (tk 13 rfl))) (by decide) (t := (.array .int)) (t' := .int) (by decide) (by decide)))).ext E5).other W8 (Or.inr (slot_ne (Or.inr (hw _ (tk 40 rfl))) (Or.inr (hw _ (tk 17 rfl))) (by decide) (t := (.array .int)) (t' := (.array (.array .int))) (by decide) (by decide)))).ext E11)
  have c80 := (((((c79.other W14 (Or.inr (slot_ne (Or.inr (hw _ (tk 40 rfl))) (Or.inr (hw _ (tk 22 rfl))) (by decide) (t := (.array .int)) (t' := (.array (.array .byte))) (by decide) (by decide)))).ext E22).other W26 (Or.inr (slot_ne (Or.inr (hw _ (tk 40 rfl))) (Or.inr (hw _ (tk 25 rfl))) (by decide) (t := (.array .int)) (t' := (.array .int)) (by decide) (by decide)))).ext E35).other W39 (Or.inr (slot_ne (Or.inr (hw _ (tk 40 rfl))) (Or.inr (hw _ (tk 27 rfl))) (by decide) (t := (.array .int)) (t' := (.array .int)) (by decide) (by decide))))
  have c81 := ((((c80.keep K51c (ninS ne_r0_b35 nin0)).ext E61).other W66 (Or.inr (slot_ne (Or.inr (hw _ (tk 40 rfl))) (Or.inr (hw _ (tk 38 rfl))) (by decide) (t := (.array .int)) (t' := (.array .int)) (by decide) (by decide)))).ext E77)
  obtain ⟨T82, h82, X82, e82, W82, st82⟩ := putF X77 hx hZ hown (host := "") (Or.inl (hw _ (tk 39 rfl))) Via.refl e77 c81 c78 (Or.inr ⟨(hw _ (tk 40 rfl)), rfl, hnm⟩) (hw _ (tk 1 rfl)) (ty := (.array .int)) (by decide) rfl rfl (g := (mkF m 189 (lt7 r0 (4 : Int32) (((4 : Int32).toInt64) * (((4 : Int32) - (1 : Int32)).toInt64))) [(.ref b77), (.ref r0)])) rfl rfl (hb hby d2_189)
  have Fw82 := c81.same W82
  have O82 : Old Z n0 h82 := O77.wr W82 g_r0
  have N82 := Fr.snoc X82 N66 g_r0
  have K82 : Keep h0 h82 [r0] := K77.wr W82 (Or.inl (List.mem_of_getElem? (i := 0) rfl))
  have c83 := (c78.wr W82)
  have c84 := ((c68.ext E77).other W82 (Ne.symm ne_r0_b5))
  have c85 := ((c69.ext E77).other W82 (Ne.symm ne_r0_b11))
  have c86 := ((c70.ext E77).other W82 (Ne.symm ne_r0_b11r0))
  have c87 := ((c71.ext E77).other W82 (Ne.symm ne_r0_b11r1))
  have c88 := ((c72.ext E77).other W82 (Ne.symm ne_r0_b11r2))
  have c89 := ((c73.ext E77).other W82 (Ne.symm ne_r0_b11r3))
  have c90 := ((c74.ext E77).other W82 (Ne.symm ne_r0_b22))
  have c91 := ((c75.ext E77).other W82 (Ne.symm ne_r0_b35))
  have c92 := ((c76.ext E77).other W82 (Ne.symm ne_r0_b61))
  have c93 := (V_b77.other W82 (Ne.symm ne_r0_b77))
  obtain ⟨T94, h94, k94, X94, e94, E94, A94, st94⟩ := newP X82 hx hZ (hw _ (tk 23 rfl)) e82 (g := (mkF m 194 (lt7 r0 (4 : Int32) (((4 : Int32).toInt64) * (((4 : Int32) - (1 : Int32)).toInt64))) [(.int (4 : Int32)), (.ref r0)])) rfl (hb hby d2_194) rfl (by decide) (cap := 4) (by decide) (by decide) (by decide) (by decide)
  obtain ⟨b94, g94⟩ : ∃ z, z = h82.size := ⟨_, rfl⟩
  rw [← g94] at A94 st94
  have g_b94 : n0 ≤ b94 := Nat.le_trans (own_old O82) (Nat.le_of_eq g94.symm)
  have sz_b94 : h0.size ≤ b94 := Nat.le_trans K82.1 (Nat.le_of_eq g94.symm)
  have ne_r0_b94 : r0 ≠ b94 := Nat.ne_of_lt (Nat.lt_of_lt_of_le c83.lt (Nat.le_of_eq g94.symm))
  have ne_b5_b94 : b5 ≠ b94 := Nat.ne_of_lt (Nat.lt_of_lt_of_le c84.lt (Nat.le_of_eq g94.symm))
  have ne_b11_b94 : b11 ≠ b94 := Nat.ne_of_lt (Nat.lt_of_lt_of_le c85.lt (Nat.le_of_eq g94.symm))
  have ne_b11r0_b94 : b11r0 ≠ b94 := Nat.ne_of_lt (Nat.lt_of_lt_of_le c86.lt (Nat.le_of_eq g94.symm))
  have ne_b11r1_b94 : b11r1 ≠ b94 := Nat.ne_of_lt (Nat.lt_of_lt_of_le c87.lt (Nat.le_of_eq g94.symm))
  have ne_b11r2_b94 : b11r2 ≠ b94 := Nat.ne_of_lt (Nat.lt_of_lt_of_le c88.lt (Nat.le_of_eq g94.symm))
  have ne_b11r3_b94 : b11r3 ≠ b94 := Nat.ne_of_lt (Nat.lt_of_lt_of_le c89.lt (Nat.le_of_eq g94.symm))
  have ne_b22_b94 : b22 ≠ b94 := Nat.ne_of_lt (Nat.lt_of_lt_of_le c90.lt (Nat.le_of_eq g94.symm))
  have ne_b35_b94 : b35 ≠ b94 := Nat.ne_of_lt (Nat.lt_of_lt_of_le c91.lt (Nat.le_of_eq g94.symm))
  have ne_b61_b94 : b61 ≠ b94 := Nat.ne_of_lt (Nat.lt_of_lt_of_le c92.lt (Nat.le_of_eq g94.symm))
  have ne_b77_b94 : b77 ≠ b94 := Nat.ne_of_lt (Nat.lt_of_lt_of_le c93.lt (Nat.le_of_eq g94.symm))
  have O94 : Old Z n0 h94 := O82.ext E94
  have K94 : Keep h0 h94 [r0] := K82.ext E94
  have V_b94 : Arv Z h94 b94 k94 .int (4 : Int32) [(.int (0 : Int32)), (.int (0 : Int32)), (.int (0 : Int32)), (.int (0 : Int32))] (.int (0 : Int32)) := (Arv.new A94 (by decide)).pad (pad_rep [] (.int (0 : Int32)) 4)
  have c95 := (c83.ext E94)
  have c96 := ((((F_pathSize_r0.other W3 (Or.inr (slot_ne (Or.inr (hw _ (tk 42 rfl))) (Or.inr (hw _ (tk 13 rfl))) (by decide) (t := (.array .int)) (t' := .int) (by decide) (by decide)))).ext E5).other W8 (Or.inr (slot_ne (Or.inr (hw _ (tk 42 rfl))) (Or.inr (hw _ (tk 17 rfl))) (by decide) (t := (.array .int)) (t' := (.array (.array .int))) (by decide) (by decide)))).ext E11)
  have c97 := (((((c96.other W14 (Or.inr (slot_ne (Or.inr (hw _ (tk 42 rfl))) (Or.inr (hw _ (tk 22 rfl))) (by decide) (t := (.array .int)) (t' := (.array (.array .byte))) (by decide) (by decide)))).ext E22).other W26 (Or.inr (slot_ne (Or.inr (hw _ (tk 42 rfl))) (Or.inr (hw _ (tk 25 rfl))) (by decide) (t := (.array .int)) (t' := (.array .int)) (by decide) (by decide)))).ext E35).other W39 (Or.inr (slot_ne (Or.inr (hw _ (tk 42 rfl))) (Or.inr (hw _ (tk 27 rfl))) (by decide) (t := (.array .int)) (t' := (.array .int)) (by decide) (by decide))))
  have c98 := (((((c97.keep K51c (ninS ne_r0_b35 nin0)).ext E61).other W66 (Or.inr (slot_ne (Or.inr (hw _ (tk 42 rfl))) (Or.inr (hw _ (tk 38 rfl))) (by decide) (t := (.array .int)) (t' := (.array .int)) (by decide) (by decide)))).ext E77).other W82 (Or.inr (slot_ne (Or.inr (hw _ (tk 42 rfl))) (Or.inr (hw _ (tk 40 rfl))) (by decide) (t := (.array .int)) (t' := (.array .int)) (by decide) (by decide))))
  have c99 := (c98.ext E94)
  obtain ⟨T100, h100, X100, e100, W100, st100⟩ := putF X94 hx hZ hown (host := "") (Or.inl (hw _ (tk 41 rfl))) Via.refl e94 c99 c95 (Or.inr ⟨(hw _ (tk 42 rfl)), rfl, hnm⟩) (hw _ (tk 1 rfl)) (ty := (.array .int)) (by decide) rfl rfl (g := (mkF m 196 (lt7 r0 (4 : Int32) (((4 : Int32).toInt64) * (((4 : Int32) - (1 : Int32)).toInt64))) [(.ref b94), (.ref r0)])) rfl rfl (hb hby d2_196)
  have Fw100 := c99.same W100
  have O100 : Old Z n0 h100 := O94.wr W100 g_r0
  have N100 := Fr.snoc X100 N82 g_r0
  have K100 : Keep h0 h100 [r0] := K94.wr W100 (Or.inl (List.mem_of_getElem? (i := 0) rfl))
  have c101 := ((Fw82.ext E94).other W100 (Or.inr (slot_ne (Or.inr (hw _ (tk 40 rfl))) (Or.inr (hw _ (tk 42 rfl))) (by decide) (t := (.array .int)) (t' := (.array .int)) (by decide) (by decide))))
  obtain ⟨T102, X102, e102, st102⟩ := getF X100 hx hZ hown (host := "") (Or.inl (hw _ (tk 39 rfl))) Via.refl e100 c101 (g := (mkF m 209 (lt9 r0 (4 : Int32) (((4 : Int32).toInt64) * (((4 : Int32) - (1 : Int32)).toInt64)) (0 : Int32)) [(.ref r0)])) rfl rfl (hb hby d2_209)
  have c103 := ((c93.ext E94).other W100 (Ne.symm ne_r0_b77))
  obtain ⟨cl104, Ar104, qa104, Sa104, Ma104, Ha104, Ga104⟩ := id c103
  have hin104 : ¬ ((0 : Int32) < 0 ∨ cl104.slots.size ≤ ((0 : Int32)).toNatClampNeg) := by exact inb_of Sa104 ⟨by decide, by decide⟩
  obtain ⟨T105, h105, X105, e105, W105, st105⟩ := stI X102 hx hZ e102 Ar104 (j := (0 : Int32)) hin104 (g := (mkF m 216 (lt9 r0 (4 : Int32) (((4 : Int32).toInt64) * (((4 : Int32) - (1 : Int32)).toInt64)) (0 : Int32)) [(.int (0 : Int32)), (.int (0 : Int32)), (.ref b77)])) rfl rfl (hb hby d2_216)
  have V_b77_105 : Arv Z h105 b77 k77 .int (4 : Int32) [(.int (0 : Int32)), (.int (0 : Int32)), (.int (0 : Int32)), (.int (0 : Int32))] (.int (0 : Int32)) := Arv.set Ar104 qa104 Sa104 Ma104 Ha104 Ga104 rfl W105 0 rfl (Nat.le_of_ble_eq_true rfl)
  have O105 : Old Z n0 h105 := O100.wr W105 g_b77
  have N105 := Fr.snoc X105 N100 g_b77
  have K105 : Keep h0 h105 [r0] := K100.wr W105 (Or.inr sz_b77)
  have c106 := (Fw100.other W105 (Or.inl ne_r0_b77))
  obtain ⟨T107, X107, e107, st107⟩ := getF X105 hx hZ hown (host := "") (Or.inl (hw _ (tk 41 rfl))) Via.refl e105 c106 (g := (mkF m 218 (lt9 r0 (4 : Int32) (((4 : Int32).toInt64) * (((4 : Int32) - (1 : Int32)).toInt64)) (0 : Int32)) [(.ref r0)])) rfl rfl (hb hby d2_218)
  have c108 := ((V_b94.other W100 (Ne.symm ne_r0_b94)).other W105 (Ne.symm ne_b77_b94))
  obtain ⟨cl109, Ar109, qa109, Sa109, Ma109, Ha109, Ga109⟩ := id c108
  have hin109 : ¬ ((0 : Int32) < 0 ∨ cl109.slots.size ≤ ((0 : Int32)).toNatClampNeg) := by exact inb_of Sa109 ⟨by decide, by decide⟩
  obtain ⟨T110, h110, X110, e110, W110, st110⟩ := stI X107 hx hZ e107 Ar109 (j := (0 : Int32)) hin109 (g := (mkF m 224 (lt9 r0 (4 : Int32) (((4 : Int32).toInt64) * (((4 : Int32) - (1 : Int32)).toInt64)) (0 : Int32)) [(.int (1 : Int32)), (.int (0 : Int32)), (.ref b94)])) rfl rfl (hb hby d2_224)
  have V_b94_110 : Arv Z h110 b94 k94 .int (4 : Int32) [(.int (1 : Int32)), (.int (0 : Int32)), (.int (0 : Int32)), (.int (0 : Int32))] (.int (0 : Int32)) := Arv.set Ar109 qa109 Sa109 Ma109 Ha109 Ga109 rfl W110 0 rfl (Nat.le_of_ble_eq_true rfl)
  have O110 : Old Z n0 h110 := O105.wr W110 g_b94
  have N110 := Fr.snoc X110 N105 g_b94
  have K110 : Keep h0 h110 [r0] := K105.wr W110 (Or.inr sz_b94)
  have c111 := ((c101.other W105 (Or.inl ne_r0_b77)).other W110 (Or.inl ne_r0_b94))
  obtain ⟨T112, X112, e112, st112⟩ := getF X110 hx hZ hown (host := "") (Or.inl (hw _ (tk 39 rfl))) Via.refl e110 c111 (g := (mkF m 209 (lt9 r0 (4 : Int32) (((4 : Int32).toInt64) * (((4 : Int32) - (1 : Int32)).toInt64)) ((0 : Int32) + (1 : Int32))) [(.ref r0)])) rfl rfl (hb hby d2_209)
  have c113 := (V_b77_105.other W110 ne_b77_b94)
  obtain ⟨cl114, Ar114, qa114, Sa114, Ma114, Ha114, Ga114⟩ := id c113
  have hin114 : ¬ (((0 : Int32) + (1 : Int32)) < 0 ∨ cl114.slots.size ≤ (((0 : Int32) + (1 : Int32))).toNatClampNeg) := by exact inb_of Sa114 ⟨by decide, by decide⟩
  obtain ⟨T115, h115, X115, e115, W115, st115⟩ := stI X112 hx hZ e112 Ar114 (j := ((0 : Int32) + (1 : Int32))) hin114 (g := (mkF m 216 (lt9 r0 (4 : Int32) (((4 : Int32).toInt64) * (((4 : Int32) - (1 : Int32)).toInt64)) ((0 : Int32) + (1 : Int32))) [(.int ((0 : Int32) + (1 : Int32))), (.int ((0 : Int32) + (1 : Int32))), (.ref b77)])) rfl rfl (hb hby d2_216)
  have V_b77_115 : Arv Z h115 b77 k77 .int (4 : Int32) [(.int (0 : Int32)), (.int ((0 : Int32) + (1 : Int32))), (.int (0 : Int32)), (.int (0 : Int32))] (.int (0 : Int32)) := Arv.set Ar114 qa114 Sa114 Ma114 Ha114 Ga114 rfl W115 1 rfl (Nat.le_of_ble_eq_true rfl)
  have O115 : Old Z n0 h115 := O110.wr W115 g_b77
  have N115 := Fr.snoc X115 N110 g_b77
  have K115 : Keep h0 h115 [r0] := K110.wr W115 (Or.inr sz_b77)
  have c116 := ((c106.other W110 (Or.inl ne_r0_b94)).other W115 (Or.inl ne_r0_b77))
  obtain ⟨T117, X117, e117, st117⟩ := getF X115 hx hZ hown (host := "") (Or.inl (hw _ (tk 41 rfl))) Via.refl e115 c116 (g := (mkF m 218 (lt9 r0 (4 : Int32) (((4 : Int32).toInt64) * (((4 : Int32) - (1 : Int32)).toInt64)) ((0 : Int32) + (1 : Int32))) [(.ref r0)])) rfl rfl (hb hby d2_218)
  have c118 := (V_b94_110.other W115 (Ne.symm ne_b77_b94))
  obtain ⟨cl119, Ar119, qa119, Sa119, Ma119, Ha119, Ga119⟩ := id c118
  have hin119 : ¬ (((0 : Int32) + (1 : Int32)) < 0 ∨ cl119.slots.size ≤ (((0 : Int32) + (1 : Int32))).toNatClampNeg) := by exact inb_of Sa119 ⟨by decide, by decide⟩
  obtain ⟨T120, h120, X120, e120, W120, st120⟩ := stI X117 hx hZ e117 Ar119 (j := ((0 : Int32) + (1 : Int32))) hin119 (g := (mkF m 224 (lt9 r0 (4 : Int32) (((4 : Int32).toInt64) * (((4 : Int32) - (1 : Int32)).toInt64)) ((0 : Int32) + (1 : Int32))) [(.int (1 : Int32)), (.int ((0 : Int32) + (1 : Int32))), (.ref b94)])) rfl rfl (hb hby d2_224)
  have V_b94_120 : Arv Z h120 b94 k94 .int (4 : Int32) [(.int (1 : Int32)), (.int (1 : Int32)), (.int (0 : Int32)), (.int (0 : Int32))] (.int (0 : Int32)) := Arv.set Ar119 qa119 Sa119 Ma119 Ha119 Ga119 rfl W120 1 rfl (Nat.le_of_ble_eq_true rfl)
  have O120 : Old Z n0 h120 := O115.wr W120 g_b94
  have N120 := Fr.snoc X120 N115 g_b94
  have K120 : Keep h0 h120 [r0] := K115.wr W120 (Or.inr sz_b94)
  have c121 := ((c111.other W115 (Or.inl ne_r0_b77)).other W120 (Or.inl ne_r0_b94))
  obtain ⟨T122, X122, e122, st122⟩ := getF X120 hx hZ hown (host := "") (Or.inl (hw _ (tk 39 rfl))) Via.refl e120 c121 (g := (mkF m 209 (lt9 r0 (4 : Int32) (((4 : Int32).toInt64) * (((4 : Int32) - (1 : Int32)).toInt64)) (((0 : Int32) + (1 : Int32)) + (1 : Int32))) [(.ref r0)])) rfl rfl (hb hby d2_209)
  have c123 := (V_b77_115.other W120 ne_b77_b94)
  obtain ⟨cl124, Ar124, qa124, Sa124, Ma124, Ha124, Ga124⟩ := id c123
  have hin124 : ¬ ((((0 : Int32) + (1 : Int32)) + (1 : Int32)) < 0 ∨ cl124.slots.size ≤ ((((0 : Int32) + (1 : Int32)) + (1 : Int32))).toNatClampNeg) := by exact inb_of Sa124 ⟨by decide, by decide⟩
  obtain ⟨T125, h125, X125, e125, W125, st125⟩ := stI X122 hx hZ e122 Ar124 (j := (((0 : Int32) + (1 : Int32)) + (1 : Int32))) hin124 (g := (mkF m 216 (lt9 r0 (4 : Int32) (((4 : Int32).toInt64) * (((4 : Int32) - (1 : Int32)).toInt64)) (((0 : Int32) + (1 : Int32)) + (1 : Int32))) [(.int (((0 : Int32) + (1 : Int32)) + (1 : Int32))), (.int (((0 : Int32) + (1 : Int32)) + (1 : Int32))), (.ref b77)])) rfl rfl (hb hby d2_216)
  have V_b77_125 : Arv Z h125 b77 k77 .int (4 : Int32) [(.int (0 : Int32)), (.int ((0 : Int32) + (1 : Int32))), (.int (((0 : Int32) + (1 : Int32)) + (1 : Int32))), (.int (0 : Int32))] (.int (0 : Int32)) := Arv.set Ar124 qa124 Sa124 Ma124 Ha124 Ga124 rfl W125 2 rfl (Nat.le_of_ble_eq_true rfl)
  have O125 : Old Z n0 h125 := O120.wr W125 g_b77
  have N125 := Fr.snoc X125 N120 g_b77
  have K125 : Keep h0 h125 [r0] := K120.wr W125 (Or.inr sz_b77)
  have c126 := ((c116.other W120 (Or.inl ne_r0_b94)).other W125 (Or.inl ne_r0_b77))
  obtain ⟨T127, X127, e127, st127⟩ := getF X125 hx hZ hown (host := "") (Or.inl (hw _ (tk 41 rfl))) Via.refl e125 c126 (g := (mkF m 218 (lt9 r0 (4 : Int32) (((4 : Int32).toInt64) * (((4 : Int32) - (1 : Int32)).toInt64)) (((0 : Int32) + (1 : Int32)) + (1 : Int32))) [(.ref r0)])) rfl rfl (hb hby d2_218)
  have c128 := (V_b94_120.other W125 (Ne.symm ne_b77_b94))
  obtain ⟨cl129, Ar129, qa129, Sa129, Ma129, Ha129, Ga129⟩ := id c128
  have hin129 : ¬ ((((0 : Int32) + (1 : Int32)) + (1 : Int32)) < 0 ∨ cl129.slots.size ≤ ((((0 : Int32) + (1 : Int32)) + (1 : Int32))).toNatClampNeg) := by exact inb_of Sa129 ⟨by decide, by decide⟩
  obtain ⟨T130, h130, X130, e130, W130, st130⟩ := stI X127 hx hZ e127 Ar129 (j := (((0 : Int32) + (1 : Int32)) + (1 : Int32))) hin129 (g := (mkF m 224 (lt9 r0 (4 : Int32) (((4 : Int32).toInt64) * (((4 : Int32) - (1 : Int32)).toInt64)) (((0 : Int32) + (1 : Int32)) + (1 : Int32))) [(.int (1 : Int32)), (.int (((0 : Int32) + (1 : Int32)) + (1 : Int32))), (.ref b94)])) rfl rfl (hb hby d2_224)
  have V_b94_130 : Arv Z h130 b94 k94 .int (4 : Int32) [(.int (1 : Int32)), (.int (1 : Int32)), (.int (1 : Int32)), (.int (0 : Int32))] (.int (0 : Int32)) := Arv.set Ar129 qa129 Sa129 Ma129 Ha129 Ga129 rfl W130 2 rfl (Nat.le_of_ble_eq_true rfl)
  have O130 : Old Z n0 h130 := O125.wr W130 g_b94
  have N130 := Fr.snoc X130 N125 g_b94
  have K130 : Keep h0 h130 [r0] := K125.wr W130 (Or.inr sz_b94)
  have c131 := ((c121.other W125 (Or.inl ne_r0_b77)).other W130 (Or.inl ne_r0_b94))
  obtain ⟨T132, X132, e132, st132⟩ := getF X130 hx hZ hown (host := "") (Or.inl (hw _ (tk 39 rfl))) Via.refl e130 c131 (g := (mkF m 209 (lt9 r0 (4 : Int32) (((4 : Int32).toInt64) * (((4 : Int32) - (1 : Int32)).toInt64)) ((((0 : Int32) + (1 : Int32)) + (1 : Int32)) + (1 : Int32))) [(.ref r0)])) rfl rfl (hb hby d2_209)
  have c133 := (V_b77_125.other W130 ne_b77_b94)
  obtain ⟨cl134, Ar134, qa134, Sa134, Ma134, Ha134, Ga134⟩ := id c133
  have hin134 : ¬ (((((0 : Int32) + (1 : Int32)) + (1 : Int32)) + (1 : Int32)) < 0 ∨ cl134.slots.size ≤ (((((0 : Int32) + (1 : Int32)) + (1 : Int32)) + (1 : Int32))).toNatClampNeg) := by exact inb_of Sa134 ⟨by decide, by decide⟩
  obtain ⟨T135, h135, X135, e135, W135, st135⟩ := stI X132 hx hZ e132 Ar134 (j := ((((0 : Int32) + (1 : Int32)) + (1 : Int32)) + (1 : Int32))) hin134 (g := (mkF m 216 (lt9 r0 (4 : Int32) (((4 : Int32).toInt64) * (((4 : Int32) - (1 : Int32)).toInt64)) ((((0 : Int32) + (1 : Int32)) + (1 : Int32)) + (1 : Int32))) [(.int ((((0 : Int32) + (1 : Int32)) + (1 : Int32)) + (1 : Int32))), (.int ((((0 : Int32) + (1 : Int32)) + (1 : Int32)) + (1 : Int32))), (.ref b77)])) rfl rfl (hb hby d2_216)
  have V_b77_135 : Arv Z h135 b77 k77 .int (4 : Int32) [(.int (0 : Int32)), (.int ((0 : Int32) + (1 : Int32))), (.int (((0 : Int32) + (1 : Int32)) + (1 : Int32))), (.int ((((0 : Int32) + (1 : Int32)) + (1 : Int32)) + (1 : Int32)))] (.int (0 : Int32)) := Arv.set Ar134 qa134 Sa134 Ma134 Ha134 Ga134 rfl W135 3 rfl (Nat.le_of_ble_eq_true rfl)
  have O135 : Old Z n0 h135 := O130.wr W135 g_b77
  have N135 := Fr.snoc X135 N130 g_b77
  have K135 : Keep h0 h135 [r0] := K130.wr W135 (Or.inr sz_b77)
  have c136 := ((c126.other W130 (Or.inl ne_r0_b94)).other W135 (Or.inl ne_r0_b77))
  obtain ⟨T137, X137, e137, st137⟩ := getF X135 hx hZ hown (host := "") (Or.inl (hw _ (tk 41 rfl))) Via.refl e135 c136 (g := (mkF m 218 (lt9 r0 (4 : Int32) (((4 : Int32).toInt64) * (((4 : Int32) - (1 : Int32)).toInt64)) ((((0 : Int32) + (1 : Int32)) + (1 : Int32)) + (1 : Int32))) [(.ref r0)])) rfl rfl (hb hby d2_218)
  have c138 := (V_b94_130.other W135 (Ne.symm ne_b77_b94))
  obtain ⟨cl139, Ar139, qa139, Sa139, Ma139, Ha139, Ga139⟩ := id c138
  have hin139 : ¬ (((((0 : Int32) + (1 : Int32)) + (1 : Int32)) + (1 : Int32)) < 0 ∨ cl139.slots.size ≤ (((((0 : Int32) + (1 : Int32)) + (1 : Int32)) + (1 : Int32))).toNatClampNeg) := by exact inb_of Sa139 ⟨by decide, by decide⟩
  obtain ⟨T140, h140, X140, e140, W140, st140⟩ := stI X137 hx hZ e137 Ar139 (j := ((((0 : Int32) + (1 : Int32)) + (1 : Int32)) + (1 : Int32))) hin139 (g := (mkF m 224 (lt9 r0 (4 : Int32) (((4 : Int32).toInt64) * (((4 : Int32) - (1 : Int32)).toInt64)) ((((0 : Int32) + (1 : Int32)) + (1 : Int32)) + (1 : Int32))) [(.int (1 : Int32)), (.int ((((0 : Int32) + (1 : Int32)) + (1 : Int32)) + (1 : Int32))), (.ref b94)])) rfl rfl (hb hby d2_224)
  have V_b94_140 : Arv Z h140 b94 k94 .int (4 : Int32) [(.int (1 : Int32)), (.int (1 : Int32)), (.int (1 : Int32)), (.int (1 : Int32))] (.int (0 : Int32)) := Arv.set Ar139 qa139 Sa139 Ma139 Ha139 Ga139 rfl W140 3 rfl (Nat.le_of_ble_eq_true rfl)
  have O140 : Old Z n0 h140 := O135.wr W140 g_b94
  have N140 := Fr.snoc X140 N135 g_b94
  have K140 : Keep h0 h140 [r0] := K135.wr W140 (Or.inr sz_b94)
  have c141 := ((((c95.wr W100).wr W105).wr W110).wr W115)
  have c142 := (((((c141.wr W120).wr W125).wr W130).wr W135).wr W140)
  have c143 := ((((c84.ext E94).other W100 (Ne.symm ne_r0_b5)).other W105 ne_b5_b77).other W110 ne_b5_b94)
  have c144 := (((((c143.other W115 ne_b5_b77).other W120 ne_b5_b94).other W125 ne_b5_b77).other W130 ne_b5_b94).other W135 ne_b5_b77)
  have c145 := (c144.other W140 ne_b5_b94)
  have c146 := ((((c85.ext E94).other W100 (Ne.symm ne_r0_b11)).other W105 ne_b11_b77).other W110 ne_b11_b94)
  have c147 := (((((c146.other W115 ne_b11_b77).other W120 ne_b11_b94).other W125 ne_b11_b77).other W130 ne_b11_b94).other W135 ne_b11_b77)
  have c148 := (c147.other W140 ne_b11_b94)
  have c149 := ((((c86.ext E94).other W100 (Ne.symm ne_r0_b11r0)).other W105 ne_b11r0_b77).other W110 ne_b11r0_b94)
  have c150 := (((((c149.other W115 ne_b11r0_b77).other W120 ne_b11r0_b94).other W125 ne_b11r0_b77).other W130 ne_b11r0_b94).other W135 ne_b11r0_b77)
  have c151 := (c150.other W140 ne_b11r0_b94)
  have c152 := ((((c87.ext E94).other W100 (Ne.symm ne_r0_b11r1)).other W105 ne_b11r1_b77).other W110 ne_b11r1_b94)
  have c153 := (((((c152.other W115 ne_b11r1_b77).other W120 ne_b11r1_b94).other W125 ne_b11r1_b77).other W130 ne_b11r1_b94).other W135 ne_b11r1_b77)
  have c154 := (c153.other W140 ne_b11r1_b94)
  have c155 := ((((c88.ext E94).other W100 (Ne.symm ne_r0_b11r2)).other W105 ne_b11r2_b77).other W110 ne_b11r2_b94)
  have c156 := (((((c155.other W115 ne_b11r2_b77).other W120 ne_b11r2_b94).other W125 ne_b11r2_b77).other W130 ne_b11r2_b94).other W135 ne_b11r2_b77)
  have c157 := (c156.other W140 ne_b11r2_b94)
  have c158 := ((((c89.ext E94).other W100 (Ne.symm ne_r0_b11r3)).other W105 ne_b11r3_b77).other W110 ne_b11r3_b94)
  have c159 := (((((c158.other W115 ne_b11r3_b77).other W120 ne_b11r3_b94).other W125 ne_b11r3_b77).other W130 ne_b11r3_b94).other W135 ne_b11r3_b77)
  have c160 := (c159.other W140 ne_b11r3_b94)
  have c161 := ((((c90.ext E94).other W100 (Ne.symm ne_r0_b22)).other W105 ne_b22_b77).other W110 ne_b22_b94)
  have c162 := (((((c161.other W115 ne_b22_b77).other W120 ne_b22_b94).other W125 ne_b22_b77).other W130 ne_b22_b94).other W135 ne_b22_b77)
  have c163 := (c162.other W140 ne_b22_b94)
  have c164 := ((((c91.ext E94).other W100 (Ne.symm ne_r0_b35)).other W105 ne_b35_b77).other W110 ne_b35_b94)
  have c165 := (((((c164.other W115 ne_b35_b77).other W120 ne_b35_b94).other W125 ne_b35_b77).other W130 ne_b35_b94).other W135 ne_b35_b77)
  have c166 := (c165.other W140 ne_b35_b94)
  have c167 := ((((c92.ext E94).other W100 (Ne.symm ne_r0_b61)).other W105 ne_b61_b77).other W110 ne_b61_b94)
  have c168 := (((((c167.other W115 ne_b61_b77).other W120 ne_b61_b94).other W125 ne_b61_b77).other W130 ne_b61_b94).other W135 ne_b61_b77)
  have c169 := (c168.other W140 ne_b61_b94)
  have c170 := (V_b77_135.other W140 ne_b77_b94)
  obtain ⟨T171, h171, k171, X171, e171, E171, A171, st171⟩ := newP X140 hx hZ (hw _ (tk 23 rfl)) e140 (g := (mkF m 233 (lt9 r0 (4 : Int32) (((4 : Int32).toInt64) * (((4 : Int32) - (1 : Int32)).toInt64)) (((((0 : Int32) + (1 : Int32)) + (1 : Int32)) + (1 : Int32)) + (1 : Int32))) [(.int (4 : Int32)), (.ref r0)])) rfl (hb hby d2_233) rfl (by decide) (cap := 4) (by decide) (by decide) (by decide) (by decide)
  obtain ⟨b171, g171⟩ : ∃ z, z = h140.size := ⟨_, rfl⟩
  rw [← g171] at A171 st171
  have g_b171 : n0 ≤ b171 := Nat.le_trans (own_old O140) (Nat.le_of_eq g171.symm)
  have sz_b171 : h0.size ≤ b171 := Nat.le_trans K140.1 (Nat.le_of_eq g171.symm)
  have ne_r0_b171 : r0 ≠ b171 := Nat.ne_of_lt (Nat.lt_of_lt_of_le c142.lt (Nat.le_of_eq g171.symm))
  have ne_b5_b171 : b5 ≠ b171 := Nat.ne_of_lt (Nat.lt_of_lt_of_le c145.lt (Nat.le_of_eq g171.symm))
  have ne_b11_b171 : b11 ≠ b171 := Nat.ne_of_lt (Nat.lt_of_lt_of_le c148.lt (Nat.le_of_eq g171.symm))
  have ne_b11r0_b171 : b11r0 ≠ b171 := Nat.ne_of_lt (Nat.lt_of_lt_of_le c151.lt (Nat.le_of_eq g171.symm))
  have ne_b11r1_b171 : b11r1 ≠ b171 := Nat.ne_of_lt (Nat.lt_of_lt_of_le c154.lt (Nat.le_of_eq g171.symm))
  have ne_b11r2_b171 : b11r2 ≠ b171 := Nat.ne_of_lt (Nat.lt_of_lt_of_le c157.lt (Nat.le_of_eq g171.symm))
  have ne_b11r3_b171 : b11r3 ≠ b171 := Nat.ne_of_lt (Nat.lt_of_lt_of_le c160.lt (Nat.le_of_eq g171.symm))
  have ne_b22_b171 : b22 ≠ b171 := Nat.ne_of_lt (Nat.lt_of_lt_of_le c163.lt (Nat.le_of_eq g171.symm))
  have ne_b35_b171 : b35 ≠ b171 := Nat.ne_of_lt (Nat.lt_of_lt_of_le c166.lt (Nat.le_of_eq g171.symm))
  have ne_b61_b171 : b61 ≠ b171 := Nat.ne_of_lt (Nat.lt_of_lt_of_le c169.lt (Nat.le_of_eq g171.symm))
  have ne_b77_b171 : b77 ≠ b171 := Nat.ne_of_lt (Nat.lt_of_lt_of_le c170.lt (Nat.le_of_eq g171.symm))
  have ne_b94_b171 : b94 ≠ b171 := Nat.ne_of_lt (Nat.lt_of_lt_of_le V_b94_140.lt (Nat.le_of_eq g171.symm))
  have O171 : Old Z n0 h171 := O140.ext E171
  have K171 : Keep h0 h171 [r0] := K140.ext E171
  have V_b171 : Arv Z h171 b171 k171 .int (4 : Int32) [(.int (0 : Int32)), (.int (0 : Int32)), (.int (0 : Int32)), (.int (0 : Int32))] (.int (0 : Int32)) := (Arv.new A171 (by decide)).pad (pad_rep [] (.int (0 : Int32)) 4)
  have c172 := (c142.ext E171)
  have c173 := ((((F_pending_r0.other W3 (Or.inr (slot_ne (Or.inr (hw _ (tk 44 rfl))) (Or.inr (hw _ (tk 13 rfl))) (by decide) (t := (.array .int)) (t' := .int) (by decide) (by decide)))).ext E5).other W8 (Or.inr (slot_ne (Or.inr (hw _ (tk 44 rfl))) (Or.inr (hw _ (tk 17 rfl))) (by decide) (t := (.array .int)) (t' := (.array (.array .int))) (by decide) (by decide)))).ext E11)
  have c174 := (((((c173.other W14 (Or.inr (slot_ne (Or.inr (hw _ (tk 44 rfl))) (Or.inr (hw _ (tk 22 rfl))) (by decide) (t := (.array .int)) (t' := (.array (.array .byte))) (by decide) (by decide)))).ext E22).other W26 (Or.inr (slot_ne (Or.inr (hw _ (tk 44 rfl))) (Or.inr (hw _ (tk 25 rfl))) (by decide) (t := (.array .int)) (t' := (.array .int)) (by decide) (by decide)))).ext E35).other W39 (Or.inr (slot_ne (Or.inr (hw _ (tk 44 rfl))) (Or.inr (hw _ (tk 27 rfl))) (by decide) (t := (.array .int)) (t' := (.array .int)) (by decide) (by decide))))
  have c175 := (((((c174.keep K51c (ninS ne_r0_b35 nin0)).ext E61).other W66 (Or.inr (slot_ne (Or.inr (hw _ (tk 44 rfl))) (Or.inr (hw _ (tk 38 rfl))) (by decide) (t := (.array .int)) (t' := (.array .int)) (by decide) (by decide)))).ext E77).other W82 (Or.inr (slot_ne (Or.inr (hw _ (tk 44 rfl))) (Or.inr (hw _ (tk 40 rfl))) (by decide) (t := (.array .int)) (t' := (.array .int)) (by decide) (by decide))))
  have c176 := (((((c175.ext E94).other W100 (Or.inr (slot_ne (Or.inr (hw _ (tk 44 rfl))) (Or.inr (hw _ (tk 42 rfl))) (by decide) (t := (.array .int)) (t' := (.array .int)) (by decide) (by decide)))).other W105 (Or.inl ne_r0_b77)).other W110 (Or.inl ne_r0_b94)).other W115 (Or.inl ne_r0_b77))
  have c177 := (((((c176.other W120 (Or.inl ne_r0_b94)).other W125 (Or.inl ne_r0_b77)).other W130 (Or.inl ne_r0_b94)).other W135 (Or.inl ne_r0_b77)).other W140 (Or.inl ne_r0_b94))
  have c178 := (c177.ext E171)
  obtain ⟨T179, h179, X179, e179, W179, st179⟩ := putF X171 hx hZ hown (host := "") (Or.inl (hw _ (tk 43 rfl))) Via.refl e171 c178 c172 (Or.inr ⟨(hw _ (tk 44 rfl)), rfl, hnm⟩) (hw _ (tk 1 rfl)) (ty := (.array .int)) (by decide) rfl rfl (g := (mkF m 235 (lt9 r0 (4 : Int32) (((4 : Int32).toInt64) * (((4 : Int32) - (1 : Int32)).toInt64)) (((((0 : Int32) + (1 : Int32)) + (1 : Int32)) + (1 : Int32)) + (1 : Int32))) [(.ref b171), (.ref r0)])) rfl rfl (hb hby d2_235)
  have Fw179 := c178.same W179
  have O179 : Old Z n0 h179 := O171.wr W179 g_r0
  have N179 := Fr.snoc X179 N140 g_r0
  have K179 : Keep h0 h179 [r0] := K171.wr W179 (Or.inl (List.mem_of_getElem? (i := 0) rfl))
  have c180 := (c172.wr W179)
  have c181 := ((c145.ext E171).other W179 (Ne.symm ne_r0_b5))
  have c182 := ((c148.ext E171).other W179 (Ne.symm ne_r0_b11))
  have c183 := ((c151.ext E171).other W179 (Ne.symm ne_r0_b11r0))
  have c184 := ((c154.ext E171).other W179 (Ne.symm ne_r0_b11r1))
  have c185 := ((c157.ext E171).other W179 (Ne.symm ne_r0_b11r2))
  have c186 := ((c160.ext E171).other W179 (Ne.symm ne_r0_b11r3))
  have c187 := ((c163.ext E171).other W179 (Ne.symm ne_r0_b22))
  have c188 := ((c166.ext E171).other W179 (Ne.symm ne_r0_b35))
  have c189 := ((c169.ext E171).other W179 (Ne.symm ne_r0_b61))
  have c190 := ((c170.ext E171).other W179 (Ne.symm ne_r0_b77))
  have c191 := ((V_b94_140.ext E171).other W179 (Ne.symm ne_r0_b94))
  have c192 := (V_b171.other W179 (Ne.symm ne_r0_b171))
  obtain ⟨T193, h193, k193, X193, e193, E193, A193, st193⟩ := newP X179 hx hZ (hw _ (tk 45 rfl)) e179 (g := (mkF m 240 (lt9 r0 (4 : Int32) (((4 : Int32).toInt64) * (((4 : Int32) - (1 : Int32)).toInt64)) (((((0 : Int32) + (1 : Int32)) + (1 : Int32)) + (1 : Int32)) + (1 : Int32))) [(.int (4 : Int32)), (.ref r0)])) rfl (hb hby d2_240) rfl (by decide) (cap := 4) (by decide) (by decide) (by decide) (by decide)
  obtain ⟨b193, g193⟩ : ∃ z, z = h179.size := ⟨_, rfl⟩
  rw [← g193] at A193 st193
  have g_b193 : n0 ≤ b193 := Nat.le_trans (own_old O179) (Nat.le_of_eq g193.symm)
  have sz_b193 : h0.size ≤ b193 := Nat.le_trans K179.1 (Nat.le_of_eq g193.symm)
  have ne_r0_b193 : r0 ≠ b193 := Nat.ne_of_lt (Nat.lt_of_lt_of_le c180.lt (Nat.le_of_eq g193.symm))
  have ne_b5_b193 : b5 ≠ b193 := Nat.ne_of_lt (Nat.lt_of_lt_of_le c181.lt (Nat.le_of_eq g193.symm))
  have ne_b11_b193 : b11 ≠ b193 := Nat.ne_of_lt (Nat.lt_of_lt_of_le c182.lt (Nat.le_of_eq g193.symm))
  have ne_b11r0_b193 : b11r0 ≠ b193 := Nat.ne_of_lt (Nat.lt_of_lt_of_le c183.lt (Nat.le_of_eq g193.symm))
  have ne_b11r1_b193 : b11r1 ≠ b193 := Nat.ne_of_lt (Nat.lt_of_lt_of_le c184.lt (Nat.le_of_eq g193.symm))
  have ne_b11r2_b193 : b11r2 ≠ b193 := Nat.ne_of_lt (Nat.lt_of_lt_of_le c185.lt (Nat.le_of_eq g193.symm))
  have ne_b11r3_b193 : b11r3 ≠ b193 := Nat.ne_of_lt (Nat.lt_of_lt_of_le c186.lt (Nat.le_of_eq g193.symm))
  have ne_b22_b193 : b22 ≠ b193 := Nat.ne_of_lt (Nat.lt_of_lt_of_le c187.lt (Nat.le_of_eq g193.symm))
  have ne_b35_b193 : b35 ≠ b193 := Nat.ne_of_lt (Nat.lt_of_lt_of_le c188.lt (Nat.le_of_eq g193.symm))
  have ne_b61_b193 : b61 ≠ b193 := Nat.ne_of_lt (Nat.lt_of_lt_of_le c189.lt (Nat.le_of_eq g193.symm))
  have ne_b77_b193 : b77 ≠ b193 := Nat.ne_of_lt (Nat.lt_of_lt_of_le c190.lt (Nat.le_of_eq g193.symm))
  have ne_b94_b193 : b94 ≠ b193 := Nat.ne_of_lt (Nat.lt_of_lt_of_le c191.lt (Nat.le_of_eq g193.symm))
  have ne_b171_b193 : b171 ≠ b193 := Nat.ne_of_lt (Nat.lt_of_lt_of_le c192.lt (Nat.le_of_eq g193.symm))
  have O193 : Old Z n0 h193 := O179.ext E193
  have K193 : Keep h0 h193 [r0] := K179.ext E193
  have V_b193 : Arv Z h193 b193 k193 .boolean (4 : Int32) [(.int (0 : Int32)), (.int (0 : Int32)), (.int (0 : Int32)), (.int (0 : Int32))] (.int (0 : Int32)) := (Arv.new A193 (by decide)).pad (pad_rep [] (.int (0 : Int32)) 4)
  have c194 := (c180.ext E193)
  have c195 := ((((F_isPending_r0.other W3 (Or.inr (slot_ne (Or.inr (hw _ (tk 47 rfl))) (Or.inr (hw _ (tk 13 rfl))) (by decide) (t := (.array .boolean)) (t' := .int) (by decide) (by decide)))).ext E5).other W8 (Or.inr (slot_ne (Or.inr (hw _ (tk 47 rfl))) (Or.inr (hw _ (tk 17 rfl))) (by decide) (t := (.array .boolean)) (t' := (.array (.array .int))) (by decide) (by decide)))).ext E11)
  have c196 := (((((c195.other W14 (Or.inr (slot_ne (Or.inr (hw _ (tk 47 rfl))) (Or.inr (hw _ (tk 22 rfl))) (by decide) (t := (.array .boolean)) (t' := (.array (.array .byte))) (by decide) (by decide)))).ext E22).other W26 (Or.inr (slot_ne (Or.inr (hw _ (tk 47 rfl))) (Or.inr (hw _ (tk 25 rfl))) (by decide) (t := (.array .boolean)) (t' := (.array .int)) (by decide) (by decide)))).ext E35).other W39 (Or.inr (slot_ne (Or.inr (hw _ (tk 47 rfl))) (Or.inr (hw _ (tk 27 rfl))) (by decide) (t := (.array .boolean)) (t' := (.array .int)) (by decide) (by decide))))
  have c197 := (((((c196.keep K51c (ninS ne_r0_b35 nin0)).ext E61).other W66 (Or.inr (slot_ne (Or.inr (hw _ (tk 47 rfl))) (Or.inr (hw _ (tk 38 rfl))) (by decide) (t := (.array .boolean)) (t' := (.array .int)) (by decide) (by decide)))).ext E77).other W82 (Or.inr (slot_ne (Or.inr (hw _ (tk 47 rfl))) (Or.inr (hw _ (tk 40 rfl))) (by decide) (t := (.array .boolean)) (t' := (.array .int)) (by decide) (by decide))))
  have c198 := (((((c197.ext E94).other W100 (Or.inr (slot_ne (Or.inr (hw _ (tk 47 rfl))) (Or.inr (hw _ (tk 42 rfl))) (by decide) (t := (.array .boolean)) (t' := (.array .int)) (by decide) (by decide)))).other W105 (Or.inl ne_r0_b77)).other W110 (Or.inl ne_r0_b94)).other W115 (Or.inl ne_r0_b77))
  have c199 := (((((c198.other W120 (Or.inl ne_r0_b94)).other W125 (Or.inl ne_r0_b77)).other W130 (Or.inl ne_r0_b94)).other W135 (Or.inl ne_r0_b77)).other W140 (Or.inl ne_r0_b94))
  have c200 := (((c199.ext E171).other W179 (Or.inr (slot_ne (Or.inr (hw _ (tk 47 rfl))) (Or.inr (hw _ (tk 44 rfl))) (by decide) (t := (.array .boolean)) (t' := (.array .int)) (by decide) (by decide)))).ext E193)
  obtain ⟨T201, h201, X201, e201, W201, st201⟩ := putF X193 hx hZ hown (host := "") (Or.inl (hw _ (tk 46 rfl))) Via.refl e193 c200 c194 (Or.inr ⟨(hw _ (tk 47 rfl)), rfl, hnm⟩) (hw _ (tk 1 rfl)) (ty := (.array .boolean)) (by decide) rfl rfl (g := (mkF m 242 (lt9 r0 (4 : Int32) (((4 : Int32).toInt64) * (((4 : Int32) - (1 : Int32)).toInt64)) (((((0 : Int32) + (1 : Int32)) + (1 : Int32)) + (1 : Int32)) + (1 : Int32))) [(.ref b193), (.ref r0)])) rfl rfl (hb hby d2_242)
  have Fw201 := c200.same W201
  have O201 : Old Z n0 h201 := O193.wr W201 g_r0
  have N201 := Fr.snoc X201 N179 g_r0
  have K201 : Keep h0 h201 [r0] := K193.wr W201 (Or.inl (List.mem_of_getElem? (i := 0) rfl))
  have c202 := (c194.wr W201)
  have c203 := ((c181.ext E193).other W201 (Ne.symm ne_r0_b5))
  have c204 := ((c182.ext E193).other W201 (Ne.symm ne_r0_b11))
  have c205 := ((c183.ext E193).other W201 (Ne.symm ne_r0_b11r0))
  have c206 := ((c184.ext E193).other W201 (Ne.symm ne_r0_b11r1))
  have c207 := ((c185.ext E193).other W201 (Ne.symm ne_r0_b11r2))
  have c208 := ((c186.ext E193).other W201 (Ne.symm ne_r0_b11r3))
  have c209 := ((c187.ext E193).other W201 (Ne.symm ne_r0_b22))
  have c210 := ((c188.ext E193).other W201 (Ne.symm ne_r0_b35))
  have c211 := ((c189.ext E193).other W201 (Ne.symm ne_r0_b61))
  have c212 := ((c190.ext E193).other W201 (Ne.symm ne_r0_b77))
  have c213 := ((c191.ext E193).other W201 (Ne.symm ne_r0_b94))
  have c214 := ((c192.ext E193).other W201 (Ne.symm ne_r0_b171))
  have c215 := (V_b193.other W201 (Ne.symm ne_r0_b193))
  obtain ⟨T216, h216, k216, X216, e216, E216, A216, st216⟩ := newP X201 hx hZ (hw _ (tk 23 rfl)) e201 (g := (mkF m 249 (lt9 r0 (4 : Int32) (((4 : Int32).toInt64) * (((4 : Int32) - (1 : Int32)).toInt64)) (((((0 : Int32) + (1 : Int32)) + (1 : Int32)) + (1 : Int32)) + (1 : Int32))) [(.int ((4 : Int32) + (1 : Int32))), (.ref r0)])) rfl (hb hby d2_249) rfl (by decide) (cap := 5) (by decide) (by decide) (by decide) (by decide)
  obtain ⟨b216, g216⟩ : ∃ z, z = h201.size := ⟨_, rfl⟩
  rw [← g216] at A216 st216
  have g_b216 : n0 ≤ b216 := Nat.le_trans (own_old O201) (Nat.le_of_eq g216.symm)
  have sz_b216 : h0.size ≤ b216 := Nat.le_trans K201.1 (Nat.le_of_eq g216.symm)
  have ne_r0_b216 : r0 ≠ b216 := Nat.ne_of_lt (Nat.lt_of_lt_of_le c202.lt (Nat.le_of_eq g216.symm))
  have ne_b5_b216 : b5 ≠ b216 := Nat.ne_of_lt (Nat.lt_of_lt_of_le c203.lt (Nat.le_of_eq g216.symm))
  have ne_b11_b216 : b11 ≠ b216 := Nat.ne_of_lt (Nat.lt_of_lt_of_le c204.lt (Nat.le_of_eq g216.symm))
  have ne_b11r0_b216 : b11r0 ≠ b216 := Nat.ne_of_lt (Nat.lt_of_lt_of_le c205.lt (Nat.le_of_eq g216.symm))
  have ne_b11r1_b216 : b11r1 ≠ b216 := Nat.ne_of_lt (Nat.lt_of_lt_of_le c206.lt (Nat.le_of_eq g216.symm))
  have ne_b11r2_b216 : b11r2 ≠ b216 := Nat.ne_of_lt (Nat.lt_of_lt_of_le c207.lt (Nat.le_of_eq g216.symm))
  have ne_b11r3_b216 : b11r3 ≠ b216 := Nat.ne_of_lt (Nat.lt_of_lt_of_le c208.lt (Nat.le_of_eq g216.symm))
  have ne_b22_b216 : b22 ≠ b216 := Nat.ne_of_lt (Nat.lt_of_lt_of_le c209.lt (Nat.le_of_eq g216.symm))
  have ne_b35_b216 : b35 ≠ b216 := Nat.ne_of_lt (Nat.lt_of_lt_of_le c210.lt (Nat.le_of_eq g216.symm))
  have ne_b61_b216 : b61 ≠ b216 := Nat.ne_of_lt (Nat.lt_of_lt_of_le c211.lt (Nat.le_of_eq g216.symm))
  have ne_b77_b216 : b77 ≠ b216 := Nat.ne_of_lt (Nat.lt_of_lt_of_le c212.lt (Nat.le_of_eq g216.symm))
  have ne_b94_b216 : b94 ≠ b216 := Nat.ne_of_lt (Nat.lt_of_lt_of_le c213.lt (Nat.le_of_eq g216.symm))
  have ne_b171_b216 : b171 ≠ b216 := Nat.ne_of_lt (Nat.lt_of_lt_of_le c214.lt (Nat.le_of_eq g216.symm))
  have ne_b193_b216 : b193 ≠ b216 := Nat.ne_of_lt (Nat.lt_of_lt_of_le c215.lt (Nat.le_of_eq g216.symm))
  have O216 : Old Z n0 h216 := O201.ext E216
  have K216 : Keep h0 h216 [r0] := K201.ext E216
  have V_b216 : Arv Z h216 b216 k216 .int ((4 : Int32) + (1 : Int32)) [(.int (0 : Int32)), (.int (0 : Int32)), (.int (0 : Int32)), (.int (0 : Int32)), (.int (0 : Int32))] (.int (0 : Int32)) := (Arv.new A216 (by decide)).pad (pad_rep [] (.int (0 : Int32)) 5)
  have c217 := (c202.ext E216)
  have c218 := ((((F_listStart_r0.other W3 (Or.inr (slot_ne (Or.inr (hw _ (tk 49 rfl))) (Or.inr (hw _ (tk 13 rfl))) (by decide) (t := (.array .int)) (t' := .int) (by decide) (by decide)))).ext E5).other W8 (Or.inr (slot_ne (Or.inr (hw _ (tk 49 rfl))) (Or.inr (hw _ (tk 17 rfl))) (by decide) (t := (.array .int)) (t' := (.array (.array .int))) (by decide) (by decide)))).ext E11)
  have c219 := (((((c218.other W14 (Or.inr (slot_ne (Or.inr (hw _ (tk 49 rfl))) (Or.inr (hw _ (tk 22 rfl))) (by decide) (t := (.array .int)) (t' := (.array (.array .byte))) (by decide) (by decide)))).ext E22).other W26 (Or.inr (slot_ne (Or.inr (hw _ (tk 49 rfl))) (Or.inr (hw _ (tk 25 rfl))) (by decide) (t := (.array .int)) (t' := (.array .int)) (by decide) (by decide)))).ext E35).other W39 (Or.inr (slot_ne (Or.inr (hw _ (tk 49 rfl))) (Or.inr (hw _ (tk 27 rfl))) (by decide) (t := (.array .int)) (t' := (.array .int)) (by decide) (by decide))))
  have c220 := (((((c219.keep K51c (ninS ne_r0_b35 nin0)).ext E61).other W66 (Or.inr (slot_ne (Or.inr (hw _ (tk 49 rfl))) (Or.inr (hw _ (tk 38 rfl))) (by decide) (t := (.array .int)) (t' := (.array .int)) (by decide) (by decide)))).ext E77).other W82 (Or.inr (slot_ne (Or.inr (hw _ (tk 49 rfl))) (Or.inr (hw _ (tk 40 rfl))) (by decide) (t := (.array .int)) (t' := (.array .int)) (by decide) (by decide))))
  have c221 := (((((c220.ext E94).other W100 (Or.inr (slot_ne (Or.inr (hw _ (tk 49 rfl))) (Or.inr (hw _ (tk 42 rfl))) (by decide) (t := (.array .int)) (t' := (.array .int)) (by decide) (by decide)))).other W105 (Or.inl ne_r0_b77)).other W110 (Or.inl ne_r0_b94)).other W115 (Or.inl ne_r0_b77))
  have c222 := (((((c221.other W120 (Or.inl ne_r0_b94)).other W125 (Or.inl ne_r0_b77)).other W130 (Or.inl ne_r0_b94)).other W135 (Or.inl ne_r0_b77)).other W140 (Or.inl ne_r0_b94))
  have c223 := (((((c222.ext E171).other W179 (Or.inr (slot_ne (Or.inr (hw _ (tk 49 rfl))) (Or.inr (hw _ (tk 44 rfl))) (by decide) (t := (.array .int)) (t' := (.array .int)) (by decide) (by decide)))).ext E193).other W201 (Or.inr (slot_ne (Or.inr (hw _ (tk 49 rfl))) (Or.inr (hw _ (tk 47 rfl))) (by decide) (t := (.array .int)) (t' := (.array .boolean)) (by decide) (by decide)))).ext E216)
  obtain ⟨T224, h224, X224, e224, W224, st224⟩ := putF X216 hx hZ hown (host := "") (Or.inl (hw _ (tk 48 rfl))) Via.refl e216 c223 c217 (Or.inr ⟨(hw _ (tk 49 rfl)), rfl, hnm⟩) (hw _ (tk 1 rfl)) (ty := (.array .int)) (by decide) rfl rfl (g := (mkF m 251 (lt9 r0 (4 : Int32) (((4 : Int32).toInt64) * (((4 : Int32) - (1 : Int32)).toInt64)) (((((0 : Int32) + (1 : Int32)) + (1 : Int32)) + (1 : Int32)) + (1 : Int32))) [(.ref b216), (.ref r0)])) rfl rfl (hb hby d2_251)
  have Fw224 := c223.same W224
  have O224 : Old Z n0 h224 := O216.wr W224 g_r0
  have N224 := Fr.snoc X224 N201 g_r0
  have K224 : Keep h0 h224 [r0] := K216.wr W224 (Or.inl (List.mem_of_getElem? (i := 0) rfl))
  obtain ⟨_, _, ⟨T225, L225, k225, n225⟩, -, X225, ⟨Lc225, hQ225, l225, y225, z225⟩, st225⟩ := Jvm.LawKit.callS X224 hx (y := Y9) hown (mvT hZ (hw _ (tk 33 rfl))) (mvT hZ (hw _ (tk 34 rfl))) (mvT hZ (hw _ (tk 35 rfl))) (mvT hZ (hw _ (tk 36 rfl))) (by decide) (backOf (W := 1) (rm5x2 l Z a0 hw [] hS0 h224 n0 O224) hZ (hw _ (tk 36 rfl)) (hw _ (tk 35 rfl)) (by decide) (by decide)) (g := (mkF m 256 (lt9 r0 (4 : Int32) (((4 : Int32).toInt64) * (((4 : Int32) - (1 : Int32)).toInt64)) (((((0 : Int32) + (1 : Int32)) + (1 : Int32)) + (1 : Int32)) + (1 : Int32))) [(.long (((4 : Int32).toInt64) * (((4 : Int32) - (1 : Int32)).toInt64))), (.ref r0)])) rfl (by rw [hml]; rfl) (argsL := [(.long (((4 : Int32).toInt64) * (((4 : Int32) - (1 : Int32)).toInt64)))]) (rest := [(.ref r0)]) (lenOf pd_1 rfl) rfl (by show 2 * 0 + _ ≤ _; exact Nat.le_of_eq rfl) (hb hby d2_256) (fun _ _ => ⟨rfl, e224, (by decide : 14 + 0 ≤ _), (by decide : 85 + 0 ≤ _)⟩)
  dsimp only [Pt.U, Pt.locs, Pt.cells, Pt.slots] at X225 l225 y225 z225 st225 hQ225
  rw [l225, y225, z225] at X225
  obtain ⟨rv225, N225q, e225⟩ := hQ225
  subst rv225
  have N225 := Fr.app N224 N225q
  have c226 := (c217.wr W224)
  have c227 := ((c203.ext E216).other W224 (Ne.symm ne_r0_b5))
  have c228 := ((c204.ext E216).other W224 (Ne.symm ne_r0_b11))
  have c229 := ((c205.ext E216).other W224 (Ne.symm ne_r0_b11r0))
  have c230 := ((c206.ext E216).other W224 (Ne.symm ne_r0_b11r1))
  have c231 := ((c207.ext E216).other W224 (Ne.symm ne_r0_b11r2))
  have c232 := ((c208.ext E216).other W224 (Ne.symm ne_r0_b11r3))
  have c233 := ((c209.ext E216).other W224 (Ne.symm ne_r0_b22))
  have c234 := ((c210.ext E216).other W224 (Ne.symm ne_r0_b35))
  have c235 := ((c211.ext E216).other W224 (Ne.symm ne_r0_b61))
  have c236 := ((c212.ext E216).other W224 (Ne.symm ne_r0_b77))
  have c237 := ((c213.ext E216).other W224 (Ne.symm ne_r0_b94))
  have c238 := ((c214.ext E216).other W224 (Ne.symm ne_r0_b171))
  have c239 := ((c215.ext E216).other W224 (Ne.symm ne_r0_b193))
  have c240 := (V_b216.other W224 (Ne.symm ne_r0_b216))
  obtain ⟨T241, h241, k241, X241, e241, E241, A241, st241⟩ := newP X225 hx hZ (hw _ (tk 23 rfl)) e225 (g := (mkF m 259 (lt9 r0 (4 : Int32) (((4 : Int32).toInt64) * (((4 : Int32) - (1 : Int32)).toInt64)) (((((0 : Int32) + (1 : Int32)) + (1 : Int32)) + (1 : Int32)) + (1 : Int32))) [(.int ((((4 : Int32).toInt64) * (((4 : Int32) - (1 : Int32)).toInt64)).toInt32)), (.ref r0)])) rfl (hb hby d2_259) rfl (by decide) (cap := 12) (by decide) (by decide) (by decide) (by decide)
  obtain ⟨b241, g241⟩ : ∃ z, z = h224.size := ⟨_, rfl⟩
  rw [← g241] at A241 st241
  have g_b241 : n0 ≤ b241 := Nat.le_trans (own_old O224) (Nat.le_of_eq g241.symm)
  have sz_b241 : h0.size ≤ b241 := Nat.le_trans K224.1 (Nat.le_of_eq g241.symm)
  have ne_r0_b241 : r0 ≠ b241 := Nat.ne_of_lt (Nat.lt_of_lt_of_le c226.lt (Nat.le_of_eq g241.symm))
  have ne_b5_b241 : b5 ≠ b241 := Nat.ne_of_lt (Nat.lt_of_lt_of_le c227.lt (Nat.le_of_eq g241.symm))
  have ne_b11_b241 : b11 ≠ b241 := Nat.ne_of_lt (Nat.lt_of_lt_of_le c228.lt (Nat.le_of_eq g241.symm))
  have ne_b11r0_b241 : b11r0 ≠ b241 := Nat.ne_of_lt (Nat.lt_of_lt_of_le c229.lt (Nat.le_of_eq g241.symm))
  have ne_b11r1_b241 : b11r1 ≠ b241 := Nat.ne_of_lt (Nat.lt_of_lt_of_le c230.lt (Nat.le_of_eq g241.symm))
  have ne_b11r2_b241 : b11r2 ≠ b241 := Nat.ne_of_lt (Nat.lt_of_lt_of_le c231.lt (Nat.le_of_eq g241.symm))
  have ne_b11r3_b241 : b11r3 ≠ b241 := Nat.ne_of_lt (Nat.lt_of_lt_of_le c232.lt (Nat.le_of_eq g241.symm))
  have ne_b22_b241 : b22 ≠ b241 := Nat.ne_of_lt (Nat.lt_of_lt_of_le c233.lt (Nat.le_of_eq g241.symm))
  have ne_b35_b241 : b35 ≠ b241 := Nat.ne_of_lt (Nat.lt_of_lt_of_le c234.lt (Nat.le_of_eq g241.symm))
  have ne_b61_b241 : b61 ≠ b241 := Nat.ne_of_lt (Nat.lt_of_lt_of_le c235.lt (Nat.le_of_eq g241.symm))
  have ne_b77_b241 : b77 ≠ b241 := Nat.ne_of_lt (Nat.lt_of_lt_of_le c236.lt (Nat.le_of_eq g241.symm))
  have ne_b94_b241 : b94 ≠ b241 := Nat.ne_of_lt (Nat.lt_of_lt_of_le c237.lt (Nat.le_of_eq g241.symm))
  have ne_b171_b241 : b171 ≠ b241 := Nat.ne_of_lt (Nat.lt_of_lt_of_le c238.lt (Nat.le_of_eq g241.symm))
  have ne_b193_b241 : b193 ≠ b241 := Nat.ne_of_lt (Nat.lt_of_lt_of_le c239.lt (Nat.le_of_eq g241.symm))
  have ne_b216_b241 : b216 ≠ b241 := Nat.ne_of_lt (Nat.lt_of_lt_of_le c240.lt (Nat.le_of_eq g241.symm))
  have O241 : Old Z n0 h241 := O224.ext E241
  have K241 : Keep h0 h241 [r0] := K224.ext E241
  have V_b241 : Arv Z h241 b241 k241 .int ((((4 : Int32).toInt64) * (((4 : Int32) - (1 : Int32)).toInt64)).toInt32) [(.int (0 : Int32)), (.int (0 : Int32)), (.int (0 : Int32)), (.int (0 : Int32)), (.int (0 : Int32)), (.int (0 : Int32)), (.int (0 : Int32)), (.int (0 : Int32)), (.int (0 : Int32)), (.int (0 : Int32)), (.int (0 : Int32)), (.int (0 : Int32))] (.int (0 : Int32)) := (Arv.new A241 (by decide)).pad (pad_rep [] (.int (0 : Int32)) 12)
  have c242 := (c226.ext E241)
  have c243 := ((((F_neighbours_r0.other W3 (Or.inr (slot_ne (Or.inr (hw _ (tk 51 rfl))) (Or.inr (hw _ (tk 13 rfl))) (by decide) (t := (.array .int)) (t' := .int) (by decide) (by decide)))).ext E5).other W8 (Or.inr (slot_ne (Or.inr (hw _ (tk 51 rfl))) (Or.inr (hw _ (tk 17 rfl))) (by decide) (t := (.array .int)) (t' := (.array (.array .int))) (by decide) (by decide)))).ext E11)
  have c244 := (((((c243.other W14 (Or.inr (slot_ne (Or.inr (hw _ (tk 51 rfl))) (Or.inr (hw _ (tk 22 rfl))) (by decide) (t := (.array .int)) (t' := (.array (.array .byte))) (by decide) (by decide)))).ext E22).other W26 (Or.inr (slot_ne (Or.inr (hw _ (tk 51 rfl))) (Or.inr (hw _ (tk 25 rfl))) (by decide) (t := (.array .int)) (t' := (.array .int)) (by decide) (by decide)))).ext E35).other W39 (Or.inr (slot_ne (Or.inr (hw _ (tk 51 rfl))) (Or.inr (hw _ (tk 27 rfl))) (by decide) (t := (.array .int)) (t' := (.array .int)) (by decide) (by decide))))
  have c245 := (((((c244.keep K51c (ninS ne_r0_b35 nin0)).ext E61).other W66 (Or.inr (slot_ne (Or.inr (hw _ (tk 51 rfl))) (Or.inr (hw _ (tk 38 rfl))) (by decide) (t := (.array .int)) (t' := (.array .int)) (by decide) (by decide)))).ext E77).other W82 (Or.inr (slot_ne (Or.inr (hw _ (tk 51 rfl))) (Or.inr (hw _ (tk 40 rfl))) (by decide) (t := (.array .int)) (t' := (.array .int)) (by decide) (by decide))))
  have c246 := (((((c245.ext E94).other W100 (Or.inr (slot_ne (Or.inr (hw _ (tk 51 rfl))) (Or.inr (hw _ (tk 42 rfl))) (by decide) (t := (.array .int)) (t' := (.array .int)) (by decide) (by decide)))).other W105 (Or.inl ne_r0_b77)).other W110 (Or.inl ne_r0_b94)).other W115 (Or.inl ne_r0_b77))
  have c247 := (((((c246.other W120 (Or.inl ne_r0_b94)).other W125 (Or.inl ne_r0_b77)).other W130 (Or.inl ne_r0_b94)).other W135 (Or.inl ne_r0_b77)).other W140 (Or.inl ne_r0_b94))
  have c248 := (((((c247.ext E171).other W179 (Or.inr (slot_ne (Or.inr (hw _ (tk 51 rfl))) (Or.inr (hw _ (tk 44 rfl))) (by decide) (t := (.array .int)) (t' := (.array .int)) (by decide) (by decide)))).ext E193).other W201 (Or.inr (slot_ne (Or.inr (hw _ (tk 51 rfl))) (Or.inr (hw _ (tk 47 rfl))) (by decide) (t := (.array .int)) (t' := (.array .boolean)) (by decide) (by decide)))).ext E216)
  have c249 := ((c248.other W224 (Or.inr (slot_ne (Or.inr (hw _ (tk 51 rfl))) (Or.inr (hw _ (tk 49 rfl))) (by decide) (t := (.array .int)) (t' := (.array .int)) (by decide) (by decide)))).ext E241)
  obtain ⟨T250, h250, X250, e250, W250, st250⟩ := putF X241 hx hZ hown (host := "") (Or.inl (hw _ (tk 50 rfl))) Via.refl e241 c249 c242 (Or.inr ⟨(hw _ (tk 51 rfl)), rfl, hnm⟩) (hw _ (tk 1 rfl)) (ty := (.array .int)) (by decide) rfl rfl (g := (mkF m 261 (lt9 r0 (4 : Int32) (((4 : Int32).toInt64) * (((4 : Int32) - (1 : Int32)).toInt64)) (((((0 : Int32) + (1 : Int32)) + (1 : Int32)) + (1 : Int32)) + (1 : Int32))) [(.ref b241), (.ref r0)])) rfl rfl (hb hby d2_261)
  have Fw250 := c249.same W250
  have O250 : Old Z n0 h250 := O241.wr W250 g_r0
  have N250 := Fr.snoc X250 N225 g_r0
  have K250 : Keep h0 h250 [r0] := K241.wr W250 (Or.inl (List.mem_of_getElem? (i := 0) rfl))
  have c251 := (c242.wr W250)
  have c252 := ((((Fw3.ext E5).other W8 (Or.inr (slot_ne (Or.inr (hw _ (tk 13 rfl))) (Or.inr (hw _ (tk 17 rfl))) (by decide) (t := .int) (t' := (.array (.array .int))) (by decide) (by decide)))).ext E11).other W14 (Or.inr (slot_ne (Or.inr (hw _ (tk 13 rfl))) (Or.inr (hw _ (tk 22 rfl))) (by decide) (t := .int) (t' := (.array (.array .byte))) (by decide) (by decide))))
  have c253 := (((((c252.ext E22).other W26 (Or.inr (slot_ne (Or.inr (hw _ (tk 13 rfl))) (Or.inr (hw _ (tk 25 rfl))) (by decide) (t := .int) (t' := (.array .int)) (by decide) (by decide)))).ext E35).other W39 (Or.inr (slot_ne (Or.inr (hw _ (tk 13 rfl))) (Or.inr (hw _ (tk 27 rfl))) (by decide) (t := .int) (t' := (.array .int)) (by decide) (by decide)))).keep K51c (ninS ne_r0_b35 nin0))
  have c254 := (((((c253.ext E61).other W66 (Or.inr (slot_ne (Or.inr (hw _ (tk 13 rfl))) (Or.inr (hw _ (tk 38 rfl))) (by decide) (t := .int) (t' := (.array .int)) (by decide) (by decide)))).ext E77).other W82 (Or.inr (slot_ne (Or.inr (hw _ (tk 13 rfl))) (Or.inr (hw _ (tk 40 rfl))) (by decide) (t := .int) (t' := (.array .int)) (by decide) (by decide)))).ext E94)
  have c255 := (((((c254.other W100 (Or.inr (slot_ne (Or.inr (hw _ (tk 13 rfl))) (Or.inr (hw _ (tk 42 rfl))) (by decide) (t := .int) (t' := (.array .int)) (by decide) (by decide)))).other W105 (Or.inl ne_r0_b77)).other W110 (Or.inl ne_r0_b94)).other W115 (Or.inl ne_r0_b77)).other W120 (Or.inl ne_r0_b94))
  have c256 := (((((c255.other W125 (Or.inl ne_r0_b77)).other W130 (Or.inl ne_r0_b94)).other W135 (Or.inl ne_r0_b77)).other W140 (Or.inl ne_r0_b94)).ext E171)
  have c257 := (((((c256.other W179 (Or.inr (slot_ne (Or.inr (hw _ (tk 13 rfl))) (Or.inr (hw _ (tk 44 rfl))) (by decide) (t := .int) (t' := (.array .int)) (by decide) (by decide)))).ext E193).other W201 (Or.inr (slot_ne (Or.inr (hw _ (tk 13 rfl))) (Or.inr (hw _ (tk 47 rfl))) (by decide) (t := .int) (t' := (.array .boolean)) (by decide) (by decide)))).ext E216).other W224 (Or.inr (slot_ne (Or.inr (hw _ (tk 13 rfl))) (Or.inr (hw _ (tk 49 rfl))) (by decide) (t := .int) (t' := (.array .int)) (by decide) (by decide))))
  have c258 := ((c257.ext E241).other W250 (Or.inr (slot_ne (Or.inr (hw _ (tk 13 rfl))) (Or.inr (hw _ (tk 51 rfl))) (by decide) (t := .int) (t' := (.array .int)) (by decide) (by decide))))
  have c259 := ((((Fw8.ext E11).other W14 (Or.inr (slot_ne (Or.inr (hw _ (tk 17 rfl))) (Or.inr (hw _ (tk 22 rfl))) (by decide) (t := (.array (.array .int))) (t' := (.array (.array .byte))) (by decide) (by decide)))).ext E22).other W26 (Or.inr (slot_ne (Or.inr (hw _ (tk 17 rfl))) (Or.inr (hw _ (tk 25 rfl))) (by decide) (t := (.array (.array .int))) (t' := (.array .int)) (by decide) (by decide))))
  have c260 := (((((c259.ext E35).other W39 (Or.inr (slot_ne (Or.inr (hw _ (tk 17 rfl))) (Or.inr (hw _ (tk 27 rfl))) (by decide) (t := (.array (.array .int))) (t' := (.array .int)) (by decide) (by decide)))).keep K51c (ninS ne_r0_b35 nin0)).ext E61).other W66 (Or.inr (slot_ne (Or.inr (hw _ (tk 17 rfl))) (Or.inr (hw _ (tk 38 rfl))) (by decide) (t := (.array (.array .int))) (t' := (.array .int)) (by decide) (by decide))))
  have c261 := (((((c260.ext E77).other W82 (Or.inr (slot_ne (Or.inr (hw _ (tk 17 rfl))) (Or.inr (hw _ (tk 40 rfl))) (by decide) (t := (.array (.array .int))) (t' := (.array .int)) (by decide) (by decide)))).ext E94).other W100 (Or.inr (slot_ne (Or.inr (hw _ (tk 17 rfl))) (Or.inr (hw _ (tk 42 rfl))) (by decide) (t := (.array (.array .int))) (t' := (.array .int)) (by decide) (by decide)))).other W105 (Or.inl ne_r0_b77))
  have c262 := (((((c261.other W110 (Or.inl ne_r0_b94)).other W115 (Or.inl ne_r0_b77)).other W120 (Or.inl ne_r0_b94)).other W125 (Or.inl ne_r0_b77)).other W130 (Or.inl ne_r0_b94))
  have c263 := (((((c262.other W135 (Or.inl ne_r0_b77)).other W140 (Or.inl ne_r0_b94)).ext E171).other W179 (Or.inr (slot_ne (Or.inr (hw _ (tk 17 rfl))) (Or.inr (hw _ (tk 44 rfl))) (by decide) (t := (.array (.array .int))) (t' := (.array .int)) (by decide) (by decide)))).ext E193)
  have c264 := (((((c263.other W201 (Or.inr (slot_ne (Or.inr (hw _ (tk 17 rfl))) (Or.inr (hw _ (tk 47 rfl))) (by decide) (t := (.array (.array .int))) (t' := (.array .boolean)) (by decide) (by decide)))).ext E216).other W224 (Or.inr (slot_ne (Or.inr (hw _ (tk 17 rfl))) (Or.inr (hw _ (tk 49 rfl))) (by decide) (t := (.array (.array .int))) (t' := (.array .int)) (by decide) (by decide)))).ext E241).other W250 (Or.inr (slot_ne (Or.inr (hw _ (tk 17 rfl))) (Or.inr (hw _ (tk 51 rfl))) (by decide) (t := (.array (.array .int))) (t' := (.array .int)) (by decide) (by decide))))
  have c265 := ((((Fw26.ext E35).other W39 (Or.inr (slot_ne (Or.inr (hw _ (tk 25 rfl))) (Or.inr (hw _ (tk 27 rfl))) (by decide) (t := (.array .int)) (t' := (.array .int)) (by decide) (by decide)))).keep K51c (ninS ne_r0_b35 nin0)).ext E61)
  have c266 := (((((c265.other W66 (Or.inr (slot_ne (Or.inr (hw _ (tk 25 rfl))) (Or.inr (hw _ (tk 38 rfl))) (by decide) (t := (.array .int)) (t' := (.array .int)) (by decide) (by decide)))).ext E77).other W82 (Or.inr (slot_ne (Or.inr (hw _ (tk 25 rfl))) (Or.inr (hw _ (tk 40 rfl))) (by decide) (t := (.array .int)) (t' := (.array .int)) (by decide) (by decide)))).ext E94).other W100 (Or.inr (slot_ne (Or.inr (hw _ (tk 25 rfl))) (Or.inr (hw _ (tk 42 rfl))) (by decide) (t := (.array .int)) (t' := (.array .int)) (by decide) (by decide))))
  have c267 := (((((c266.other W105 (Or.inl ne_r0_b77)).other W110 (Or.inl ne_r0_b94)).other W115 (Or.inl ne_r0_b77)).other W120 (Or.inl ne_r0_b94)).other W125 (Or.inl ne_r0_b77))
  have c268 := (((((c267.other W130 (Or.inl ne_r0_b94)).other W135 (Or.inl ne_r0_b77)).other W140 (Or.inl ne_r0_b94)).ext E171).other W179 (Or.inr (slot_ne (Or.inr (hw _ (tk 25 rfl))) (Or.inr (hw _ (tk 44 rfl))) (by decide) (t := (.array .int)) (t' := (.array .int)) (by decide) (by decide))))
  have c269 := (((((c268.ext E193).other W201 (Or.inr (slot_ne (Or.inr (hw _ (tk 25 rfl))) (Or.inr (hw _ (tk 47 rfl))) (by decide) (t := (.array .int)) (t' := (.array .boolean)) (by decide) (by decide)))).ext E216).other W224 (Or.inr (slot_ne (Or.inr (hw _ (tk 25 rfl))) (Or.inr (hw _ (tk 49 rfl))) (by decide) (t := (.array .int)) (t' := (.array .int)) (by decide) (by decide)))).ext E241)
  have c270 := (c269.other W250 (Or.inr (slot_ne (Or.inr (hw _ (tk 25 rfl))) (Or.inr (hw _ (tk 51 rfl))) (by decide) (t := (.array .int)) (t' := (.array .int)) (by decide) (by decide))))
  have c271 := ((((Fw201.ext E216).other W224 (Or.inr (slot_ne (Or.inr (hw _ (tk 47 rfl))) (Or.inr (hw _ (tk 49 rfl))) (by decide) (t := (.array .boolean)) (t' := (.array .int)) (by decide) (by decide)))).ext E241).other W250 (Or.inr (slot_ne (Or.inr (hw _ (tk 47 rfl))) (Or.inr (hw _ (tk 51 rfl))) (by decide) (t := (.array .boolean)) (t' := (.array .int)) (by decide) (by decide))))
  have c272 := ((Fw224.ext E241).other W250 (Or.inr (slot_ne (Or.inr (hw _ (tk 49 rfl))) (Or.inr (hw _ (tk 51 rfl))) (by decide) (t := (.array .int)) (t' := (.array .int)) (by decide) (by decide))))
  have c273 := ((((F_listed_r0.other W3 (Or.inr (slot_ne (Or.inl (hw _ (tk 70 rfl))) (Or.inr (hw _ (tk 13 rfl))) (by decide) (t := .boolean) (t' := .int) (by decide) (by decide)))).ext E5).other W8 (Or.inr (slot_ne (Or.inl (hw _ (tk 70 rfl))) (Or.inr (hw _ (tk 17 rfl))) (by decide) (t := .boolean) (t' := (.array (.array .int))) (by decide) (by decide)))).ext E11)
  have c274 := (((((c273.other W14 (Or.inr (slot_ne (Or.inl (hw _ (tk 70 rfl))) (Or.inr (hw _ (tk 22 rfl))) (by decide) (t := .boolean) (t' := (.array (.array .byte))) (by decide) (by decide)))).ext E22).other W26 (Or.inr (slot_ne (Or.inl (hw _ (tk 70 rfl))) (Or.inr (hw _ (tk 25 rfl))) (by decide) (t := .boolean) (t' := (.array .int)) (by decide) (by decide)))).ext E35).other W39 (Or.inr (slot_ne (Or.inl (hw _ (tk 70 rfl))) (Or.inr (hw _ (tk 27 rfl))) (by decide) (t := .boolean) (t' := (.array .int)) (by decide) (by decide))))
  have c275 := (((((c274.keep K51c (ninS ne_r0_b35 nin0)).ext E61).other W66 (Or.inr (slot_ne (Or.inl (hw _ (tk 70 rfl))) (Or.inr (hw _ (tk 38 rfl))) (by decide) (t := .boolean) (t' := (.array .int)) (by decide) (by decide)))).ext E77).other W82 (Or.inr (slot_ne (Or.inl (hw _ (tk 70 rfl))) (Or.inr (hw _ (tk 40 rfl))) (by decide) (t := .boolean) (t' := (.array .int)) (by decide) (by decide))))
  have c276 := (((((c275.ext E94).other W100 (Or.inr (slot_ne (Or.inl (hw _ (tk 70 rfl))) (Or.inr (hw _ (tk 42 rfl))) (by decide) (t := .boolean) (t' := (.array .int)) (by decide) (by decide)))).other W105 (Or.inl ne_r0_b77)).other W110 (Or.inl ne_r0_b94)).other W115 (Or.inl ne_r0_b77))
  have c277 := (((((c276.other W120 (Or.inl ne_r0_b94)).other W125 (Or.inl ne_r0_b77)).other W130 (Or.inl ne_r0_b94)).other W135 (Or.inl ne_r0_b77)).other W140 (Or.inl ne_r0_b94))
  have c278 := (((((c277.ext E171).other W179 (Or.inr (slot_ne (Or.inl (hw _ (tk 70 rfl))) (Or.inr (hw _ (tk 44 rfl))) (by decide) (t := .boolean) (t' := (.array .int)) (by decide) (by decide)))).ext E193).other W201 (Or.inr (slot_ne (Or.inl (hw _ (tk 70 rfl))) (Or.inr (hw _ (tk 47 rfl))) (by decide) (t := .boolean) (t' := (.array .boolean)) (by decide) (by decide)))).ext E216)
  have c279 := (((c278.other W224 (Or.inr (slot_ne (Or.inl (hw _ (tk 70 rfl))) (Or.inr (hw _ (tk 49 rfl))) (by decide) (t := .boolean) (t' := (.array .int)) (by decide) (by decide)))).ext E241).other W250 (Or.inr (slot_ne (Or.inl (hw _ (tk 70 rfl))) (Or.inr (hw _ (tk 51 rfl))) (by decide) (t := .boolean) (t' := (.array .int)) (by decide) (by decide))))
  have c280 := ((((Fw39.keep K51c (ninS ne_r0_b35 nin0)).ext E61).other W66 (Or.inr (slot_ne (Or.inr (hw _ (tk 27 rfl))) (Or.inr (hw _ (tk 38 rfl))) (by decide) (t := (.array .int)) (t' := (.array .int)) (by decide) (by decide)))).ext E77)
  have c281 := (((((c280.other W82 (Or.inr (slot_ne (Or.inr (hw _ (tk 27 rfl))) (Or.inr (hw _ (tk 40 rfl))) (by decide) (t := (.array .int)) (t' := (.array .int)) (by decide) (by decide)))).ext E94).other W100 (Or.inr (slot_ne (Or.inr (hw _ (tk 27 rfl))) (Or.inr (hw _ (tk 42 rfl))) (by decide) (t := (.array .int)) (t' := (.array .int)) (by decide) (by decide)))).other W105 (Or.inl ne_r0_b77)).other W110 (Or.inl ne_r0_b94))
  have c282 := (((((c281.other W115 (Or.inl ne_r0_b77)).other W120 (Or.inl ne_r0_b94)).other W125 (Or.inl ne_r0_b77)).other W130 (Or.inl ne_r0_b94)).other W135 (Or.inl ne_r0_b77))
  have c283 := (((((c282.other W140 (Or.inl ne_r0_b94)).ext E171).other W179 (Or.inr (slot_ne (Or.inr (hw _ (tk 27 rfl))) (Or.inr (hw _ (tk 44 rfl))) (by decide) (t := (.array .int)) (t' := (.array .int)) (by decide) (by decide)))).ext E193).other W201 (Or.inr (slot_ne (Or.inr (hw _ (tk 27 rfl))) (Or.inr (hw _ (tk 47 rfl))) (by decide) (t := (.array .int)) (t' := (.array .boolean)) (by decide) (by decide))))
  have c284 := ((((c283.ext E216).other W224 (Or.inr (slot_ne (Or.inr (hw _ (tk 27 rfl))) (Or.inr (hw _ (tk 49 rfl))) (by decide) (t := (.array .int)) (t' := (.array .int)) (by decide) (by decide)))).ext E241).other W250 (Or.inr (slot_ne (Or.inr (hw _ (tk 27 rfl))) (Or.inr (hw _ (tk 51 rfl))) (by decide) (t := (.array .int)) (t' := (.array .int)) (by decide) (by decide))))
  have c285 := ((((c131.other W135 (Or.inl ne_r0_b77)).other W140 (Or.inl ne_r0_b94)).ext E171).other W179 (Or.inr (slot_ne (Or.inr (hw _ (tk 40 rfl))) (Or.inr (hw _ (tk 44 rfl))) (by decide) (t := (.array .int)) (t' := (.array .int)) (by decide) (by decide))))
  have c286 := (((((c285.ext E193).other W201 (Or.inr (slot_ne (Or.inr (hw _ (tk 40 rfl))) (Or.inr (hw _ (tk 47 rfl))) (by decide) (t := (.array .int)) (t' := (.array .boolean)) (by decide) (by decide)))).ext E216).other W224 (Or.inr (slot_ne (Or.inr (hw _ (tk 40 rfl))) (Or.inr (hw _ (tk 49 rfl))) (by decide) (t := (.array .int)) (t' := (.array .int)) (by decide) (by decide)))).ext E241)
  have c287 := (c286.other W250 (Or.inr (slot_ne (Or.inr (hw _ (tk 40 rfl))) (Or.inr (hw _ (tk 51 rfl))) (by decide) (t := (.array .int)) (t' := (.array .int)) (by decide) (by decide))))
  have c288 := ((((c136.other W140 (Or.inl ne_r0_b94)).ext E171).other W179 (Or.inr (slot_ne (Or.inr (hw _ (tk 42 rfl))) (Or.inr (hw _ (tk 44 rfl))) (by decide) (t := (.array .int)) (t' := (.array .int)) (by decide) (by decide)))).ext E193)
  have c289 := (((((c288.other W201 (Or.inr (slot_ne (Or.inr (hw _ (tk 42 rfl))) (Or.inr (hw _ (tk 47 rfl))) (by decide) (t := (.array .int)) (t' := (.array .boolean)) (by decide) (by decide)))).ext E216).other W224 (Or.inr (slot_ne (Or.inr (hw _ (tk 42 rfl))) (Or.inr (hw _ (tk 49 rfl))) (by decide) (t := (.array .int)) (t' := (.array .int)) (by decide) (by decide)))).ext E241).other W250 (Or.inr (slot_ne (Or.inr (hw _ (tk 42 rfl))) (Or.inr (hw _ (tk 51 rfl))) (by decide) (t := (.array .int)) (t' := (.array .int)) (by decide) (by decide))))
  have c290 := ((((Fw179.ext E193).other W201 (Or.inr (slot_ne (Or.inr (hw _ (tk 44 rfl))) (Or.inr (hw _ (tk 47 rfl))) (by decide) (t := (.array .int)) (t' := (.array .boolean)) (by decide) (by decide)))).ext E216).other W224 (Or.inr (slot_ne (Or.inr (hw _ (tk 44 rfl))) (Or.inr (hw _ (tk 49 rfl))) (by decide) (t := (.array .int)) (t' := (.array .int)) (by decide) (by decide))))
  have c291 := ((c290.ext E241).other W250 (Or.inr (slot_ne (Or.inr (hw _ (tk 44 rfl))) (Or.inr (hw _ (tk 51 rfl))) (by decide) (t := (.array .int)) (t' := (.array .int)) (by decide) (by decide))))
  have c292 := ((((F_pendingCount_r0.other W3 (Or.inr (slot_ne (Or.inl (hw _ (tk 117 rfl))) (Or.inr (hw _ (tk 13 rfl))) (by decide) (t := .int) (t' := .int) (by decide) (by decide)))).ext E5).other W8 (Or.inr (slot_ne (Or.inl (hw _ (tk 117 rfl))) (Or.inr (hw _ (tk 17 rfl))) (by decide) (t := .int) (t' := (.array (.array .int))) (by decide) (by decide)))).ext E11)
  have c293 := (((((c292.other W14 (Or.inr (slot_ne (Or.inl (hw _ (tk 117 rfl))) (Or.inr (hw _ (tk 22 rfl))) (by decide) (t := .int) (t' := (.array (.array .byte))) (by decide) (by decide)))).ext E22).other W26 (Or.inr (slot_ne (Or.inl (hw _ (tk 117 rfl))) (Or.inr (hw _ (tk 25 rfl))) (by decide) (t := .int) (t' := (.array .int)) (by decide) (by decide)))).ext E35).other W39 (Or.inr (slot_ne (Or.inl (hw _ (tk 117 rfl))) (Or.inr (hw _ (tk 27 rfl))) (by decide) (t := .int) (t' := (.array .int)) (by decide) (by decide))))
  have c294 := (((((c293.keep K51c (ninS ne_r0_b35 nin0)).ext E61).other W66 (Or.inr (slot_ne (Or.inl (hw _ (tk 117 rfl))) (Or.inr (hw _ (tk 38 rfl))) (by decide) (t := .int) (t' := (.array .int)) (by decide) (by decide)))).ext E77).other W82 (Or.inr (slot_ne (Or.inl (hw _ (tk 117 rfl))) (Or.inr (hw _ (tk 40 rfl))) (by decide) (t := .int) (t' := (.array .int)) (by decide) (by decide))))
  have c295 := (((((c294.ext E94).other W100 (Or.inr (slot_ne (Or.inl (hw _ (tk 117 rfl))) (Or.inr (hw _ (tk 42 rfl))) (by decide) (t := .int) (t' := (.array .int)) (by decide) (by decide)))).other W105 (Or.inl ne_r0_b77)).other W110 (Or.inl ne_r0_b94)).other W115 (Or.inl ne_r0_b77))
  have c296 := (((((c295.other W120 (Or.inl ne_r0_b94)).other W125 (Or.inl ne_r0_b77)).other W130 (Or.inl ne_r0_b94)).other W135 (Or.inl ne_r0_b77)).other W140 (Or.inl ne_r0_b94))
  have c297 := (((((c296.ext E171).other W179 (Or.inr (slot_ne (Or.inl (hw _ (tk 117 rfl))) (Or.inr (hw _ (tk 44 rfl))) (by decide) (t := .int) (t' := (.array .int)) (by decide) (by decide)))).ext E193).other W201 (Or.inr (slot_ne (Or.inl (hw _ (tk 117 rfl))) (Or.inr (hw _ (tk 47 rfl))) (by decide) (t := .int) (t' := (.array .boolean)) (by decide) (by decide)))).ext E216)
  have c298 := (((c297.other W224 (Or.inr (slot_ne (Or.inl (hw _ (tk 117 rfl))) (Or.inr (hw _ (tk 49 rfl))) (by decide) (t := .int) (t' := (.array .int)) (by decide) (by decide)))).ext E241).other W250 (Or.inr (slot_ne (Or.inl (hw _ (tk 117 rfl))) (Or.inr (hw _ (tk 51 rfl))) (by decide) (t := .int) (t' := (.array .int)) (by decide) (by decide))))
  have c299 := ((((F_pendingHead_r0.other W3 (Or.inr (slot_ne (Or.inl (hw _ (tk 115 rfl))) (Or.inr (hw _ (tk 13 rfl))) (by decide) (t := .int) (t' := .int) (by decide) (by decide)))).ext E5).other W8 (Or.inr (slot_ne (Or.inl (hw _ (tk 115 rfl))) (Or.inr (hw _ (tk 17 rfl))) (by decide) (t := .int) (t' := (.array (.array .int))) (by decide) (by decide)))).ext E11)
  have c300 := (((((c299.other W14 (Or.inr (slot_ne (Or.inl (hw _ (tk 115 rfl))) (Or.inr (hw _ (tk 22 rfl))) (by decide) (t := .int) (t' := (.array (.array .byte))) (by decide) (by decide)))).ext E22).other W26 (Or.inr (slot_ne (Or.inl (hw _ (tk 115 rfl))) (Or.inr (hw _ (tk 25 rfl))) (by decide) (t := .int) (t' := (.array .int)) (by decide) (by decide)))).ext E35).other W39 (Or.inr (slot_ne (Or.inl (hw _ (tk 115 rfl))) (Or.inr (hw _ (tk 27 rfl))) (by decide) (t := .int) (t' := (.array .int)) (by decide) (by decide))))
  have c301 := (((((c300.keep K51c (ninS ne_r0_b35 nin0)).ext E61).other W66 (Or.inr (slot_ne (Or.inl (hw _ (tk 115 rfl))) (Or.inr (hw _ (tk 38 rfl))) (by decide) (t := .int) (t' := (.array .int)) (by decide) (by decide)))).ext E77).other W82 (Or.inr (slot_ne (Or.inl (hw _ (tk 115 rfl))) (Or.inr (hw _ (tk 40 rfl))) (by decide) (t := .int) (t' := (.array .int)) (by decide) (by decide))))
  have c302 := (((((c301.ext E94).other W100 (Or.inr (slot_ne (Or.inl (hw _ (tk 115 rfl))) (Or.inr (hw _ (tk 42 rfl))) (by decide) (t := .int) (t' := (.array .int)) (by decide) (by decide)))).other W105 (Or.inl ne_r0_b77)).other W110 (Or.inl ne_r0_b94)).other W115 (Or.inl ne_r0_b77))
  have c303 := (((((c302.other W120 (Or.inl ne_r0_b94)).other W125 (Or.inl ne_r0_b77)).other W130 (Or.inl ne_r0_b94)).other W135 (Or.inl ne_r0_b77)).other W140 (Or.inl ne_r0_b94))
  have c304 := (((((c303.ext E171).other W179 (Or.inr (slot_ne (Or.inl (hw _ (tk 115 rfl))) (Or.inr (hw _ (tk 44 rfl))) (by decide) (t := .int) (t' := (.array .int)) (by decide) (by decide)))).ext E193).other W201 (Or.inr (slot_ne (Or.inl (hw _ (tk 115 rfl))) (Or.inr (hw _ (tk 47 rfl))) (by decide) (t := .int) (t' := (.array .boolean)) (by decide) (by decide)))).ext E216)
  have c305 := (((c304.other W224 (Or.inr (slot_ne (Or.inl (hw _ (tk 115 rfl))) (Or.inr (hw _ (tk 49 rfl))) (by decide) (t := .int) (t' := (.array .int)) (by decide) (by decide)))).ext E241).other W250 (Or.inr (slot_ne (Or.inl (hw _ (tk 115 rfl))) (Or.inr (hw _ (tk 51 rfl))) (by decide) (t := .int) (t' := (.array .int)) (by decide) (by decide))))
  have c306 := ((((Fw14.ext E22).other W26 (Or.inr (slot_ne (Or.inr (hw _ (tk 22 rfl))) (Or.inr (hw _ (tk 25 rfl))) (by decide) (t := (.array (.array .byte))) (t' := (.array .int)) (by decide) (by decide)))).ext E35).other W39 (Or.inr (slot_ne (Or.inr (hw _ (tk 22 rfl))) (Or.inr (hw _ (tk 27 rfl))) (by decide) (t := (.array (.array .byte))) (t' := (.array .int)) (by decide) (by decide))))
  have c307 := (((((c306.keep K51c (ninS ne_r0_b35 nin0)).ext E61).other W66 (Or.inr (slot_ne (Or.inr (hw _ (tk 22 rfl))) (Or.inr (hw _ (tk 38 rfl))) (by decide) (t := (.array (.array .byte))) (t' := (.array .int)) (by decide) (by decide)))).ext E77).other W82 (Or.inr (slot_ne (Or.inr (hw _ (tk 22 rfl))) (Or.inr (hw _ (tk 40 rfl))) (by decide) (t := (.array (.array .byte))) (t' := (.array .int)) (by decide) (by decide))))
  have c308 := (((((c307.ext E94).other W100 (Or.inr (slot_ne (Or.inr (hw _ (tk 22 rfl))) (Or.inr (hw _ (tk 42 rfl))) (by decide) (t := (.array (.array .byte))) (t' := (.array .int)) (by decide) (by decide)))).other W105 (Or.inl ne_r0_b77)).other W110 (Or.inl ne_r0_b94)).other W115 (Or.inl ne_r0_b77))
  have c309 := (((((c308.other W120 (Or.inl ne_r0_b94)).other W125 (Or.inl ne_r0_b77)).other W130 (Or.inl ne_r0_b94)).other W135 (Or.inl ne_r0_b77)).other W140 (Or.inl ne_r0_b94))
  have c310 := (((((c309.ext E171).other W179 (Or.inr (slot_ne (Or.inr (hw _ (tk 22 rfl))) (Or.inr (hw _ (tk 44 rfl))) (by decide) (t := (.array (.array .byte))) (t' := (.array .int)) (by decide) (by decide)))).ext E193).other W201 (Or.inr (slot_ne (Or.inr (hw _ (tk 22 rfl))) (Or.inr (hw _ (tk 47 rfl))) (by decide) (t := (.array (.array .byte))) (t' := (.array .boolean)) (by decide) (by decide)))).ext E216)
  have c311 := (((c310.other W224 (Or.inr (slot_ne (Or.inr (hw _ (tk 22 rfl))) (Or.inr (hw _ (tk 49 rfl))) (by decide) (t := (.array (.array .byte))) (t' := (.array .int)) (by decide) (by decide)))).ext E241).other W250 (Or.inr (slot_ne (Or.inr (hw _ (tk 22 rfl))) (Or.inr (hw _ (tk 51 rfl))) (by decide) (t := (.array (.array .byte))) (t' := (.array .int)) (by decide) (by decide))))
  have c312 := ((((Fw66.ext E77).other W82 (Or.inr (slot_ne (Or.inr (hw _ (tk 38 rfl))) (Or.inr (hw _ (tk 40 rfl))) (by decide) (t := (.array .int)) (t' := (.array .int)) (by decide) (by decide)))).ext E94).other W100 (Or.inr (slot_ne (Or.inr (hw _ (tk 38 rfl))) (Or.inr (hw _ (tk 42 rfl))) (by decide) (t := (.array .int)) (t' := (.array .int)) (by decide) (by decide))))
  have c313 := (((((c312.other W105 (Or.inl ne_r0_b77)).other W110 (Or.inl ne_r0_b94)).other W115 (Or.inl ne_r0_b77)).other W120 (Or.inl ne_r0_b94)).other W125 (Or.inl ne_r0_b77))
  have c314 := (((((c313.other W130 (Or.inl ne_r0_b94)).other W135 (Or.inl ne_r0_b77)).other W140 (Or.inl ne_r0_b94)).ext E171).other W179 (Or.inr (slot_ne (Or.inr (hw _ (tk 38 rfl))) (Or.inr (hw _ (tk 44 rfl))) (by decide) (t := (.array .int)) (t' := (.array .int)) (by decide) (by decide))))
  have c315 := (((((c314.ext E193).other W201 (Or.inr (slot_ne (Or.inr (hw _ (tk 38 rfl))) (Or.inr (hw _ (tk 47 rfl))) (by decide) (t := (.array .int)) (t' := (.array .boolean)) (by decide) (by decide)))).ext E216).other W224 (Or.inr (slot_ne (Or.inr (hw _ (tk 38 rfl))) (Or.inr (hw _ (tk 49 rfl))) (by decide) (t := (.array .int)) (t' := (.array .int)) (by decide) (by decide)))).ext E241)
  have c316 := (c315.other W250 (Or.inr (slot_ne (Or.inr (hw _ (tk 38 rfl))) (Or.inr (hw _ (tk 51 rfl))) (by decide) (t := (.array .int)) (t' := (.array .int)) (by decide) (by decide))))
  have c317 := ((((F_trailSize_r0.other W3 (Or.inr (slot_ne (Or.inl (hw _ (tk 63 rfl))) (Or.inr (hw _ (tk 13 rfl))) (by decide) (t := .int) (t' := .int) (by decide) (by decide)))).ext E5).other W8 (Or.inr (slot_ne (Or.inl (hw _ (tk 63 rfl))) (Or.inr (hw _ (tk 17 rfl))) (by decide) (t := .int) (t' := (.array (.array .int))) (by decide) (by decide)))).ext E11)
  have c318 := (((((c317.other W14 (Or.inr (slot_ne (Or.inl (hw _ (tk 63 rfl))) (Or.inr (hw _ (tk 22 rfl))) (by decide) (t := .int) (t' := (.array (.array .byte))) (by decide) (by decide)))).ext E22).other W26 (Or.inr (slot_ne (Or.inl (hw _ (tk 63 rfl))) (Or.inr (hw _ (tk 25 rfl))) (by decide) (t := .int) (t' := (.array .int)) (by decide) (by decide)))).ext E35).other W39 (Or.inr (slot_ne (Or.inl (hw _ (tk 63 rfl))) (Or.inr (hw _ (tk 27 rfl))) (by decide) (t := .int) (t' := (.array .int)) (by decide) (by decide))))
  have c319 := (((((c318.keep K51c (ninS ne_r0_b35 nin0)).ext E61).other W66 (Or.inr (slot_ne (Or.inl (hw _ (tk 63 rfl))) (Or.inr (hw _ (tk 38 rfl))) (by decide) (t := .int) (t' := (.array .int)) (by decide) (by decide)))).ext E77).other W82 (Or.inr (slot_ne (Or.inl (hw _ (tk 63 rfl))) (Or.inr (hw _ (tk 40 rfl))) (by decide) (t := .int) (t' := (.array .int)) (by decide) (by decide))))
  have c320 := (((((c319.ext E94).other W100 (Or.inr (slot_ne (Or.inl (hw _ (tk 63 rfl))) (Or.inr (hw _ (tk 42 rfl))) (by decide) (t := .int) (t' := (.array .int)) (by decide) (by decide)))).other W105 (Or.inl ne_r0_b77)).other W110 (Or.inl ne_r0_b94)).other W115 (Or.inl ne_r0_b77))
  have c321 := (((((c320.other W120 (Or.inl ne_r0_b94)).other W125 (Or.inl ne_r0_b77)).other W130 (Or.inl ne_r0_b94)).other W135 (Or.inl ne_r0_b77)).other W140 (Or.inl ne_r0_b94))
  have c322 := (((((c321.ext E171).other W179 (Or.inr (slot_ne (Or.inl (hw _ (tk 63 rfl))) (Or.inr (hw _ (tk 44 rfl))) (by decide) (t := .int) (t' := (.array .int)) (by decide) (by decide)))).ext E193).other W201 (Or.inr (slot_ne (Or.inl (hw _ (tk 63 rfl))) (Or.inr (hw _ (tk 47 rfl))) (by decide) (t := .int) (t' := (.array .boolean)) (by decide) (by decide)))).ext E216)
  have c323 := (((c322.other W224 (Or.inr (slot_ne (Or.inl (hw _ (tk 63 rfl))) (Or.inr (hw _ (tk 49 rfl))) (by decide) (t := .int) (t' := (.array .int)) (by decide) (by decide)))).ext E241).other W250 (Or.inr (slot_ne (Or.inl (hw _ (tk 63 rfl))) (Or.inr (hw _ (tk 51 rfl))) (by decide) (t := .int) (t' := (.array .int)) (by decide) (by decide))))
  have c324 := ((c227.ext E241).other W250 (Ne.symm ne_r0_b5))
  have c325 := ((c228.ext E241).other W250 (Ne.symm ne_r0_b11))
  have c326 := ((c229.ext E241).other W250 (Ne.symm ne_r0_b11r0))
  have c327 := ((c230.ext E241).other W250 (Ne.symm ne_r0_b11r1))
  have c328 := ((c231.ext E241).other W250 (Ne.symm ne_r0_b11r2))
  have c329 := ((c232.ext E241).other W250 (Ne.symm ne_r0_b11r3))
  have c330 := ((c233.ext E241).other W250 (Ne.symm ne_r0_b22))
  have c331 := ((c234.ext E241).other W250 (Ne.symm ne_r0_b35))
  have c332 := ((c235.ext E241).other W250 (Ne.symm ne_r0_b61))
  have c333 := ((c236.ext E241).other W250 (Ne.symm ne_r0_b77))
  have c334 := ((c237.ext E241).other W250 (Ne.symm ne_r0_b94))
  have c335 := ((c238.ext E241).other W250 (Ne.symm ne_r0_b171))
  have c336 := ((c239.ext E241).other W250 (Ne.symm ne_r0_b193))
  have c337 := ((c240.ext E241).other W250 (Ne.symm ne_r0_b216))
  have c338 := (V_b241.other W250 (Ne.symm ne_r0_b241))
  have B339 : EB Z n0 false h250 r0 (fun r => ([b22, b35, b77, b94, b171, b193, b61, b216, b241, b11r0, b11r1, b11r2, b11r3] : List Addr).getD (iR r) 0) (fun r => ([k22, k35, k77, k94, k171, k193, k61, k216, k241, kc11, kc11, kc11, kc11] : List ClassId).getD (iR r) 0) b11 4 M0 := by
    refine own_mkEB rfl (by decide) c251 (fun i hi => ?_) ?_ ?_ ?_ ?_ ?_ g_r0 (Ne.symm ne_r0_b11) (by decide)
    · match i, hi with
      | 0, _ => exact own_ari c330 [0, 0, 0, 0] rfl rfl rfl
      | 1, _ => exact own_ari c331 [3, 3, 3, 3] rfl rfl rfl
      | 2, _ => exact own_ari c333 [0, 1, 2, 3] rfl rfl rfl
      | 3, _ => exact own_ari c334 [1, 1, 1, 1] rfl rfl rfl
      | 4, _ => exact own_ari c335 [0, 0, 0, 0] rfl rfl rfl
      | 5, _ => exact own_ari c336 [0, 0, 0, 0] rfl rfl rfl
      | 6, _ => exact own_ariH c332 (List.replicate 36 0) rfl rfl
      | 7, _ => exact own_ari c337 [0, 0, 0, 0, 0] rfl rfl rfl
      | 8, _ => exact own_ari c338 [0, 0, 0, 0, 0, 0, 0, 0, 0, 0, 0, 0] rfl rfl rfl
      | 9, _ => exact own_ari c326 [0, 0, 0, 0] rfl rfl rfl
      | 10, _ => exact own_ari c327 [0, 0, 0, 0] rfl rfl rfl
      | 11, _ => exact own_ari c328 [0, 0, 0, 0] rfl rfl rfl
      | 12, _ => exact own_ari c329 [0, 0, 0, 0] rfl rfl rfl
      | k + 13, h => exact absurd h (by simp)
    · intro p hp
      simp only [frefs, List.mem_cons, List.not_mem_nil, or_false] at hp
      rcases hp with rfl | rfl | rfl | rfl | rfl | rfl | rfl | rfl | rfl | rfl | rfl
      · exact c258
      · exact c311
      · exact c270
      · exact c284
      · exact c287
      · exact c289
      · exact c291
      · exact c271
      · exact c316
      · exact c272
      · exact Fw250
    · intro p hp
      simp only [scal, List.mem_cons, List.not_mem_nil, or_false] at hp
      rcases hp with rfl | rfl | rfl | rfl
      · exact ⟨c323, rfl⟩
      · exact ⟨c279, rfl⟩
      · exact ⟨c305, rfl⟩
      · exact ⟨c298, rfl⟩
    · obtain ⟨c, A1, -, A3, -, A5, -⟩ := c325
      refine ⟨c, A1, by rw [A3]; rfl, fun i hi => ?_⟩
      rw [A5 i hi]
      have hi : i < 4 := by rw [A3] at hi; exact hi
      match i, hi with
      | 0, _ => rfl
      | 1, _ => rfl
      | 2, _ => rfl
      | 3, _ => rfl
    · exact (List.Pairwise.cons (allS ne_b22_b35 (allS ne_b22_b77 (allS ne_b22_b94 (allS ne_b22_b171 (allS ne_b22_b193 (allS ne_b22_b61 (allS ne_b22_b216 (allS ne_b22_b241 (allS (Ne.symm ne_b11r0_b22) (allS (Ne.symm ne_b11r1_b22) (allS (Ne.symm ne_b11r2_b22) (allS (Ne.symm ne_b11r3_b22) all0)))))))))))) (List.Pairwise.cons (allS ne_b35_b77 (allS ne_b35_b94 (allS ne_b35_b171 (allS ne_b35_b193 (allS ne_b35_b61 (allS ne_b35_b216 (allS ne_b35_b241 (allS (Ne.symm ne_b11r0_b35) (allS (Ne.symm ne_b11r1_b35) (allS (Ne.symm ne_b11r2_b35) (allS (Ne.symm ne_b11r3_b35) all0))))))))))) (List.Pairwise.cons (allS ne_b77_b94 (allS ne_b77_b171 (allS ne_b77_b193 (allS (Ne.symm ne_b61_b77) (allS ne_b77_b216 (allS ne_b77_b241 (allS (Ne.symm ne_b11r0_b77) (allS (Ne.symm ne_b11r1_b77) (allS (Ne.symm ne_b11r2_b77) (allS (Ne.symm ne_b11r3_b77) all0)))))))))) (List.Pairwise.cons (allS ne_b94_b171 (allS ne_b94_b193 (allS (Ne.symm ne_b61_b94) (allS ne_b94_b216 (allS ne_b94_b241 (allS (Ne.symm ne_b11r0_b94) (allS (Ne.symm ne_b11r1_b94) (allS (Ne.symm ne_b11r2_b94) (allS (Ne.symm ne_b11r3_b94) all0))))))))) (List.Pairwise.cons (allS ne_b171_b193 (allS (Ne.symm ne_b61_b171) (allS ne_b171_b216 (allS ne_b171_b241 (allS (Ne.symm ne_b11r0_b171) (allS (Ne.symm ne_b11r1_b171) (allS (Ne.symm ne_b11r2_b171) (allS (Ne.symm ne_b11r3_b171) all0)))))))) (List.Pairwise.cons (allS (Ne.symm ne_b61_b193) (allS ne_b193_b216 (allS ne_b193_b241 (allS (Ne.symm ne_b11r0_b193) (allS (Ne.symm ne_b11r1_b193) (allS (Ne.symm ne_b11r2_b193) (allS (Ne.symm ne_b11r3_b193) all0))))))) (List.Pairwise.cons (allS ne_b61_b216 (allS ne_b61_b241 (allS (Ne.symm ne_b11r0_b61) (allS (Ne.symm ne_b11r1_b61) (allS (Ne.symm ne_b11r2_b61) (allS (Ne.symm ne_b11r3_b61) all0)))))) (List.Pairwise.cons (allS ne_b216_b241 (allS (Ne.symm ne_b11r0_b216) (allS (Ne.symm ne_b11r1_b216) (allS (Ne.symm ne_b11r2_b216) (allS (Ne.symm ne_b11r3_b216) all0))))) (List.Pairwise.cons (allS (Ne.symm ne_b11r0_b241) (allS (Ne.symm ne_b11r1_b241) (allS (Ne.symm ne_b11r2_b241) (allS (Ne.symm ne_b11r3_b241) all0)))) (List.Pairwise.cons (allS ne_b11r0_b11r1 (allS ne_b11r0_b11r2 (allS ne_b11r0_b11r3 all0))) (List.Pairwise.cons (allS ne_b11r1_b11r2 (allS ne_b11r1_b11r3 all0)) (List.Pairwise.cons (allS ne_b11r2_b11r3 all0) (List.Pairwise.cons all0 List.Pairwise.nil)))))))))))))
    · exact (allS ⟨(Ne.symm ne_r0_b22), (Ne.symm ne_b11_b22), g_b22⟩ (allS ⟨(Ne.symm ne_r0_b35), (Ne.symm ne_b11_b35), g_b35⟩ (allS ⟨(Ne.symm ne_r0_b77), (Ne.symm ne_b11_b77), g_b77⟩ (allS ⟨(Ne.symm ne_r0_b94), (Ne.symm ne_b11_b94), g_b94⟩ (allS ⟨(Ne.symm ne_r0_b171), (Ne.symm ne_b11_b171), g_b171⟩ (allS ⟨(Ne.symm ne_r0_b193), (Ne.symm ne_b11_b193), g_b193⟩ (allS ⟨(Ne.symm ne_r0_b61), (Ne.symm ne_b11_b61), g_b61⟩ (allS ⟨(Ne.symm ne_r0_b216), (Ne.symm ne_b11_b216), g_b216⟩ (allS ⟨(Ne.symm ne_r0_b241), (Ne.symm ne_b11_b241), g_b241⟩ (allS ⟨(Ne.symm ne_r0_b11r0), (Ne.symm ne_b11_b11r0), g_b11r0⟩ (allS ⟨(Ne.symm ne_r0_b11r1), (Ne.symm ne_b11_b11r1), g_b11r1⟩ (allS ⟨(Ne.symm ne_r0_b11r2), (Ne.symm ne_b11_b11r2), g_b11r2⟩ (allS ⟨(Ne.symm ne_r0_b11r3), (Ne.symm ne_b11_b11r3), g_b11r3⟩ all0)))))))))))))
  generalize hA339 : (fun r => ([b22, b35, b77, b94, b171, b193, b61, b216, b241, b11r0, b11r1, b11r2, b11r3] : List Addr).getD (iR r) 0) = A at B339
  generalize hK339 : (fun r => ([k22, k35, k77, k94, k171, k193, k61, k216, k241, kc11, kc11, kc11, kc11] : List ClassId).getD (iR r) 0) = K at B339
  obtain ⟨fs, hr, hrun, hended, hW, hsame⟩ := X250.leave (v := none) (fun _ => rfl) (BodyLoose.notSynchronized Bd)
  refine ⟨_, _, pre0 _ ?_, hrun, hended, _, _, rfl, ?_, ⟨_, rfl⟩, hW, hsame.mono (by decide) (by decide)⟩
  · show Sp p e below s₁ (mkF m 0 (lt3 r0 (4 : Int32)) []) _
    refine XS.aloadN X0.here hx rfl (hb hby d2_0) rfl rfl ?_
    show Sp p e below s₁ (mkF m 1 (lt3 r0 (4 : Int32)) [(.ref r0)]) _
    refine st2 _ ?_
    show Sp p e below T2 (mkF m 4 (lt3 r0 (4 : Int32)) []) _
    refine XS.aloadN X2.here hx rfl (hb hby d2_4) rfl rfl ?_
    refine XS.iloadN X2.here hx rfl (hb hby d2_5) rfl ?_
    show Sp p e below T2 (mkF m 6 (lt3 r0 (4 : Int32)) [(.int (4 : Int32)), (.ref r0)]) _
    refine st3 _ ?_
    show Sp p e below T3 (mkF m 9 (lt3 r0 (4 : Int32)) []) _
    refine XS.aloadN X3.here hx rfl (hb hby d2_9) rfl rfl ?_
    refine XS.aloadN X3.here hx rfl (hb hby d2_10) rfl rfl ?_
    show Sp p e below T3 (mkF m 11 (lt3 r0 (4 : Int32)) [.null, (.ref r0)]) _
    refine XS.ifnonnullNo X3.here hx rfl (hb hby d2_11) rfl ?_
    show Sp p e below T3 (mkF m 14 (lt3 r0 (4 : Int32)) [(.ref r0)]) _
    refine XS.iconst X3.here hx rfl (hb hby d2_14) ?_
    show Sp p e below T3 (mkF m 15 (lt3 r0 (4 : Int32)) [(.int (0 : Int32)), (.ref r0)]) _
    refine st5 _ ?_
    show Sp p e below T5 (mkF m 18 (lt3 r0 (4 : Int32)) [(.ref b5), (.ref r0)]) _
    refine XS.goto X5.here hx rfl (pc0 := 18) (pc' := 25) rfl (hb hby d2_18) (by decide) (by decide) ?_
    show Sp p e below T5 (mkF m 25 (lt3 r0 (4 : Int32)) [(.ref b5), (.ref r0)]) _
    refine st8 _ ?_
    show Sp p e below T8 (mkF m 28 (lt3 r0 (4 : Int32)) []) _
    refine XS.aloadN X8.here hx rfl (hb hby d2_28) rfl rfl ?_
    refine XS.iloadN X8.here hx rfl (hb hby d2_29) rfl ?_
    show Sp p e below T8 (mkF m 30 (lt3 r0 (4 : Int32)) [(.int (4 : Int32)), (.ref r0)]) _
    refine XS.iloadN X8.here hx rfl (hb hby d2_30) rfl ?_
    show Sp p e below T8 (mkF m 31 (lt3 r0 (4 : Int32)) [(.int (4 : Int32)), (.int (4 : Int32)), (.ref r0)]) _
    refine st11 _ ?_
    show Sp p e below T11 (mkF m 35 (lt3 r0 (4 : Int32)) [(.ref b11), (.ref r0)]) _
    refine st14 _ ?_
    show Sp p e below T14 (mkF m 38 (lt3 r0 (4 : Int32)) []) _
    refine XS.aloadN X14.here hx rfl (hb hby d2_38) rfl rfl ?_
    refine XS.iloadN X14.here hx rfl (hb hby d2_39) rfl ?_
    show Sp p e below T14 (mkF m 40 (lt3 r0 (4 : Int32)) [(.int (4 : Int32)), (.ref r0)]) _
    refine st22 _ ?_
    show Sp p e below T22 (mkF m 42 (lt3 r0 (4 : Int32)) [(.ref b22), (.ref r0)]) _
    refine st26 _ ?_
    show Sp p e below T26 (mkF m 45 (lt3 r0 (4 : Int32)) []) _
    refine XS.aloadN X26.here hx rfl (hb hby d2_45) rfl rfl ?_
    refine XS.iloadN X26.here hx rfl (hb hby d2_46) rfl ?_
    show Sp p e below T26 (mkF m 47 (lt3 r0 (4 : Int32)) [(.int (4 : Int32)), (.ref r0)]) _
    refine st35 _ ?_
    show Sp p e below T35 (mkF m 49 (lt3 r0 (4 : Int32)) [(.ref b35), (.ref r0)]) _
    refine st39 _ ?_
    show Sp p e below T39 (mkF m 52 (lt3 r0 (4 : Int32)) []) _
    refine XS.aloadN X39.here hx rfl (hb hby d2_52) rfl rfl ?_
    show Sp p e below T39 (mkF m 53 (lt3 r0 (4 : Int32)) [(.ref r0)]) _
    refine st40 _ ?_
    show Sp p e below T40 (mkF m 56 (lt3 r0 (4 : Int32)) [(.ref b35)]) _
    refine XS.iloadN X40.here hx rfl (hb hby d2_56) rfl ?_
    refine XS.iconst X40.here hx rfl (hb hby d2_57) ?_
    show Sp p e below T40 (mkF m 58 (lt3 r0 (4 : Int32)) [(.int (1 : Int32)), (.int (4 : Int32)), (.ref b35)]) _
    refine XS.isub X40.here hx rfl (hb hby d2_58) rfl ?_
    show Sp p e below T40 (mkF m 59 (lt3 r0 (4 : Int32)) [(.int ((4 : Int32) - (1 : Int32))), (.ref b35)]) _
    refine st51 _ ?_
    show Sp p e below T51 (mkF m 62 (lt3 r0 (4 : Int32)) []) _
    refine XS.iloadN X51.here hx rfl (hb hby d2_62) rfl ?_
    refine XS.i2l X51.here hx rfl (hb hby d2_63) rfl ?_
    show Sp p e below T51 (mkF m 64 (lt3 r0 (4 : Int32)) [(.long ((4 : Int32).toInt64))]) _
    refine XS.iloadN X51.here hx rfl (hb hby d2_64) rfl ?_
    refine XS.iconst X51.here hx rfl (hb hby d2_65) ?_
    show Sp p e below T51 (mkF m 66 (lt3 r0 (4 : Int32)) [(.int (1 : Int32)), (.int (4 : Int32)), (.long ((4 : Int32).toInt64))]) _
    refine XS.isub X51.here hx rfl (hb hby d2_66) rfl ?_
    refine XS.i2l X51.here hx rfl (hb hby d2_67) rfl ?_
    show Sp p e below T51 (mkF m 68 (lt3 r0 (4 : Int32)) [(.long (((4 : Int32) - (1 : Int32)).toInt64)), (.long ((4 : Int32).toInt64))]) _
    refine XS.lmul X51.here hx rfl (hb hby d2_68) rfl ?_
    refine XS.lstoreN X51.here hx rfl (hb hby d2_69) rfl (l' := (lt7 r0 (4 : Int32) (((4 : Int32).toInt64) * (((4 : Int32) - (1 : Int32)).toInt64)))) rfl ?_
    show Sp p e below T51 (mkF m 70 (lt7 r0 (4 : Int32) (((4 : Int32).toInt64) * (((4 : Int32) - (1 : Int32)).toInt64))) []) _
    refine XS.aloadN X51.here hx rfl (hb hby d2_70) rfl rfl ?_
    show Sp p e below T51 (mkF m 71 (lt7 r0 (4 : Int32) (((4 : Int32).toInt64) * (((4 : Int32) - (1 : Int32)).toInt64))) [.null]) _
    refine XS.ifnullYes X51.here hx rfl (pc0 := 71) (pc' := 168) rfl (hb hby d2_71) rfl (by decide) (by decide) ?_
    show Sp p e below T51 (mkF m 168 (lt7 r0 (4 : Int32) (((4 : Int32).toInt64) * (((4 : Int32) - (1 : Int32)).toInt64))) []) _
    refine XS.aloadN X51.here hx rfl (hb hby d2_168) rfl rfl ?_
    refine XS.lloadN X51.here hx rfl (hb hby d2_169) rfl ?_
    show Sp p e below T51 (mkF m 170 (lt7 r0 (4 : Int32) (((4 : Int32).toInt64) * (((4 : Int32) - (1 : Int32)).toInt64))) [(.long (((4 : Int32).toInt64) * (((4 : Int32) - (1 : Int32)).toInt64))), (.ref r0)]) _
    refine X51.ldc2Long hx hown (mvT hZ (hw _ (tk 32 rfl))) (g := (mkF m 170 (lt7 r0 (4 : Int32) (((4 : Int32).toInt64) * (((4 : Int32) - (1 : Int32)).toInt64))) [(.long (((4 : Int32).toInt64) * (((4 : Int32) - (1 : Int32)).toInt64))), (.ref r0)])) rfl (hb hby d2_170) _ ?_
    show Sp p e below T51 (mkF m 173 (lt7 r0 (4 : Int32) (((4 : Int32).toInt64) * (((4 : Int32) - (1 : Int32)).toInt64))) [(.long (6 : Int64)), (.long (((4 : Int32).toInt64) * (((4 : Int32) - (1 : Int32)).toInt64))), (.ref r0)]) _
    refine XS.iloadN X51.here hx rfl (hb hby d2_173) rfl ?_
    refine XS.i2l X51.here hx rfl (hb hby d2_174) rfl ?_
    show Sp p e below T51 (mkF m 175 (lt7 r0 (4 : Int32) (((4 : Int32).toInt64) * (((4 : Int32) - (1 : Int32)).toInt64))) [(.long ((4 : Int32).toInt64)), (.long (6 : Int64)), (.long (((4 : Int32).toInt64) * (((4 : Int32) - (1 : Int32)).toInt64))), (.ref r0)]) _
    refine XS.lmul X51.here hx rfl (hb hby d2_175) rfl ?_
    refine XS.ladd X51.here hx rfl (hb hby d2_176) rfl ?_
    show Sp p e below T51 (mkF m 177 (lt7 r0 (4 : Int32) (((4 : Int32).toInt64) * (((4 : Int32) - (1 : Int32)).toInt64))) [(.long ((((4 : Int32).toInt64) * (((4 : Int32) - (1 : Int32)).toInt64)) + ((6 : Int64) * ((4 : Int32).toInt64)))), (.ref r0)]) _
    refine st52 _ ?_
    show Sp p e below T52 (mkF m 180 (lt7 r0 (4 : Int32) (((4 : Int32).toInt64) * (((4 : Int32) - (1 : Int32)).toInt64))) [(.int (((((4 : Int32).toInt64) * (((4 : Int32) - (1 : Int32)).toInt64)) + ((6 : Int64) * ((4 : Int32).toInt64))).toInt32)), (.ref r0)]) _
    refine st61 _ ?_
    show Sp p e below T61 (mkF m 182 (lt7 r0 (4 : Int32) (((4 : Int32).toInt64) * (((4 : Int32) - (1 : Int32)).toInt64))) [(.ref b61), (.ref r0)]) _
    refine st66 _ ?_
    show Sp p e below T66 (mkF m 185 (lt7 r0 (4 : Int32) (((4 : Int32).toInt64) * (((4 : Int32) - (1 : Int32)).toInt64))) []) _
    refine XS.aloadN X66.here hx rfl (hb hby d2_185) rfl rfl ?_
    refine XS.iloadN X66.here hx rfl (hb hby d2_186) rfl ?_
    show Sp p e below T66 (mkF m 187 (lt7 r0 (4 : Int32) (((4 : Int32).toInt64) * (((4 : Int32) - (1 : Int32)).toInt64))) [(.int (4 : Int32)), (.ref r0)]) _
    refine st77 _ ?_
    show Sp p e below T77 (mkF m 189 (lt7 r0 (4 : Int32) (((4 : Int32).toInt64) * (((4 : Int32) - (1 : Int32)).toInt64))) [(.ref b77), (.ref r0)]) _
    refine st82 _ ?_
    show Sp p e below T82 (mkF m 192 (lt7 r0 (4 : Int32) (((4 : Int32).toInt64) * (((4 : Int32) - (1 : Int32)).toInt64))) []) _
    refine XS.aloadN X82.here hx rfl (hb hby d2_192) rfl rfl ?_
    refine XS.iloadN X82.here hx rfl (hb hby d2_193) rfl ?_
    show Sp p e below T82 (mkF m 194 (lt7 r0 (4 : Int32) (((4 : Int32).toInt64) * (((4 : Int32) - (1 : Int32)).toInt64))) [(.int (4 : Int32)), (.ref r0)]) _
    refine st94 _ ?_
    show Sp p e below T94 (mkF m 196 (lt7 r0 (4 : Int32) (((4 : Int32).toInt64) * (((4 : Int32) - (1 : Int32)).toInt64))) [(.ref b94), (.ref r0)]) _
    refine st100 _ ?_
    show Sp p e below T100 (mkF m 199 (lt7 r0 (4 : Int32) (((4 : Int32).toInt64) * (((4 : Int32) - (1 : Int32)).toInt64))) []) _
    refine XS.iconst X100.here hx rfl (hb hby d2_199) ?_
    refine XS.istore X100.here hx rfl (hb hby d2_200) rfl (l' := (lt9 r0 (4 : Int32) (((4 : Int32).toInt64) * (((4 : Int32) - (1 : Int32)).toInt64)) (0 : Int32))) rfl ?_
    show Sp p e below T100 (mkF m 202 (lt9 r0 (4 : Int32) (((4 : Int32).toInt64) * (((4 : Int32) - (1 : Int32)).toInt64)) (0 : Int32)) []) _
    refine XS.iload X100.here hx rfl (hb hby d2_202) rfl ?_
    refine XS.iloadN X100.here hx rfl (hb hby d2_204) rfl ?_
    show Sp p e below T100 (mkF m 205 (lt9 r0 (4 : Int32) (((4 : Int32).toInt64) * (((4 : Int32) - (1 : Int32)).toInt64)) (0 : Int32)) [(.int (4 : Int32)), (.int (0 : Int32))]) _
    refine XS.icmpNo X100.here hx rfl (hb hby d2_205) rfl (tlt (by decide : ((0 : Int32) < (4 : Int32)))).2.1 ?_
    show Sp p e below T100 (mkF m 208 (lt9 r0 (4 : Int32) (((4 : Int32).toInt64) * (((4 : Int32) - (1 : Int32)).toInt64)) (0 : Int32)) []) _
    refine XS.aloadN X100.here hx rfl (hb hby d2_208) rfl rfl ?_
    show Sp p e below T100 (mkF m 209 (lt9 r0 (4 : Int32) (((4 : Int32).toInt64) * (((4 : Int32) - (1 : Int32)).toInt64)) (0 : Int32)) [(.ref r0)]) _
    refine st102 _ ?_
    show Sp p e below T102 (mkF m 212 (lt9 r0 (4 : Int32) (((4 : Int32).toInt64) * (((4 : Int32) - (1 : Int32)).toInt64)) (0 : Int32)) [(.ref b77)]) _
    refine XS.iload X102.here hx rfl (hb hby d2_212) rfl ?_
    refine XS.iload X102.here hx rfl (hb hby d2_214) rfl ?_
    show Sp p e below T102 (mkF m 216 (lt9 r0 (4 : Int32) (((4 : Int32).toInt64) * (((4 : Int32) - (1 : Int32)).toInt64)) (0 : Int32)) [(.int (0 : Int32)), (.int (0 : Int32)), (.ref b77)]) _
    refine st105 _ ?_
    show Sp p e below T105 (mkF m 217 (lt9 r0 (4 : Int32) (((4 : Int32).toInt64) * (((4 : Int32) - (1 : Int32)).toInt64)) (0 : Int32)) []) _
    refine XS.aloadN X105.here hx rfl (hb hby d2_217) rfl rfl ?_
    show Sp p e below T105 (mkF m 218 (lt9 r0 (4 : Int32) (((4 : Int32).toInt64) * (((4 : Int32) - (1 : Int32)).toInt64)) (0 : Int32)) [(.ref r0)]) _
    refine st107 _ ?_
    show Sp p e below T107 (mkF m 221 (lt9 r0 (4 : Int32) (((4 : Int32).toInt64) * (((4 : Int32) - (1 : Int32)).toInt64)) (0 : Int32)) [(.ref b94)]) _
    refine XS.iload X107.here hx rfl (hb hby d2_221) rfl ?_
    refine XS.iconst X107.here hx rfl (hb hby d2_223) ?_
    show Sp p e below T107 (mkF m 224 (lt9 r0 (4 : Int32) (((4 : Int32).toInt64) * (((4 : Int32) - (1 : Int32)).toInt64)) (0 : Int32)) [(.int (1 : Int32)), (.int (0 : Int32)), (.ref b94)]) _
    refine st110 _ ?_
    show Sp p e below T110 (mkF m 225 (lt9 r0 (4 : Int32) (((4 : Int32).toInt64) * (((4 : Int32) - (1 : Int32)).toInt64)) (0 : Int32)) []) _
    refine XS.iinc X110.here hx rfl (hb hby d2_225) rfl (l' := (lt9 r0 (4 : Int32) (((4 : Int32).toInt64) * (((4 : Int32) - (1 : Int32)).toInt64)) ((0 : Int32) + (1 : Int32)))) rfl ?_
    show Sp p e below T110 (mkF m 228 (lt9 r0 (4 : Int32) (((4 : Int32).toInt64) * (((4 : Int32) - (1 : Int32)).toInt64)) ((0 : Int32) + (1 : Int32))) []) _
    refine XS.goto X110.here hx rfl (pc0 := 228) (pc' := 202) rfl (hb hby d2_228) (by decide) (by decide) ?_
    show Sp p e below T110 (mkF m 202 (lt9 r0 (4 : Int32) (((4 : Int32).toInt64) * (((4 : Int32) - (1 : Int32)).toInt64)) ((0 : Int32) + (1 : Int32))) []) _
    refine XS.iload X110.here hx rfl (hb hby d2_202) rfl ?_
    refine XS.iloadN X110.here hx rfl (hb hby d2_204) rfl ?_
    show Sp p e below T110 (mkF m 205 (lt9 r0 (4 : Int32) (((4 : Int32).toInt64) * (((4 : Int32) - (1 : Int32)).toInt64)) ((0 : Int32) + (1 : Int32))) [(.int (4 : Int32)), (.int ((0 : Int32) + (1 : Int32)))]) _
    refine XS.icmpNo X110.here hx rfl (hb hby d2_205) rfl (tlt (by decide : (((0 : Int32) + (1 : Int32)) < (4 : Int32)))).2.1 ?_
    show Sp p e below T110 (mkF m 208 (lt9 r0 (4 : Int32) (((4 : Int32).toInt64) * (((4 : Int32) - (1 : Int32)).toInt64)) ((0 : Int32) + (1 : Int32))) []) _
    refine XS.aloadN X110.here hx rfl (hb hby d2_208) rfl rfl ?_
    show Sp p e below T110 (mkF m 209 (lt9 r0 (4 : Int32) (((4 : Int32).toInt64) * (((4 : Int32) - (1 : Int32)).toInt64)) ((0 : Int32) + (1 : Int32))) [(.ref r0)]) _
    refine st112 _ ?_
    show Sp p e below T112 (mkF m 212 (lt9 r0 (4 : Int32) (((4 : Int32).toInt64) * (((4 : Int32) - (1 : Int32)).toInt64)) ((0 : Int32) + (1 : Int32))) [(.ref b77)]) _
    refine XS.iload X112.here hx rfl (hb hby d2_212) rfl ?_
    refine XS.iload X112.here hx rfl (hb hby d2_214) rfl ?_
    show Sp p e below T112 (mkF m 216 (lt9 r0 (4 : Int32) (((4 : Int32).toInt64) * (((4 : Int32) - (1 : Int32)).toInt64)) ((0 : Int32) + (1 : Int32))) [(.int ((0 : Int32) + (1 : Int32))), (.int ((0 : Int32) + (1 : Int32))), (.ref b77)]) _
    refine st115 _ ?_
    show Sp p e below T115 (mkF m 217 (lt9 r0 (4 : Int32) (((4 : Int32).toInt64) * (((4 : Int32) - (1 : Int32)).toInt64)) ((0 : Int32) + (1 : Int32))) []) _
    refine XS.aloadN X115.here hx rfl (hb hby d2_217) rfl rfl ?_
    show Sp p e below T115 (mkF m 218 (lt9 r0 (4 : Int32) (((4 : Int32).toInt64) * (((4 : Int32) - (1 : Int32)).toInt64)) ((0 : Int32) + (1 : Int32))) [(.ref r0)]) _
    refine st117 _ ?_
    show Sp p e below T117 (mkF m 221 (lt9 r0 (4 : Int32) (((4 : Int32).toInt64) * (((4 : Int32) - (1 : Int32)).toInt64)) ((0 : Int32) + (1 : Int32))) [(.ref b94)]) _
    refine XS.iload X117.here hx rfl (hb hby d2_221) rfl ?_
    refine XS.iconst X117.here hx rfl (hb hby d2_223) ?_
    show Sp p e below T117 (mkF m 224 (lt9 r0 (4 : Int32) (((4 : Int32).toInt64) * (((4 : Int32) - (1 : Int32)).toInt64)) ((0 : Int32) + (1 : Int32))) [(.int (1 : Int32)), (.int ((0 : Int32) + (1 : Int32))), (.ref b94)]) _
    refine st120 _ ?_
    show Sp p e below T120 (mkF m 225 (lt9 r0 (4 : Int32) (((4 : Int32).toInt64) * (((4 : Int32) - (1 : Int32)).toInt64)) ((0 : Int32) + (1 : Int32))) []) _
    refine XS.iinc X120.here hx rfl (hb hby d2_225) rfl (l' := (lt9 r0 (4 : Int32) (((4 : Int32).toInt64) * (((4 : Int32) - (1 : Int32)).toInt64)) (((0 : Int32) + (1 : Int32)) + (1 : Int32)))) rfl ?_
    show Sp p e below T120 (mkF m 228 (lt9 r0 (4 : Int32) (((4 : Int32).toInt64) * (((4 : Int32) - (1 : Int32)).toInt64)) (((0 : Int32) + (1 : Int32)) + (1 : Int32))) []) _
    refine XS.goto X120.here hx rfl (pc0 := 228) (pc' := 202) rfl (hb hby d2_228) (by decide) (by decide) ?_
    show Sp p e below T120 (mkF m 202 (lt9 r0 (4 : Int32) (((4 : Int32).toInt64) * (((4 : Int32) - (1 : Int32)).toInt64)) (((0 : Int32) + (1 : Int32)) + (1 : Int32))) []) _
    refine XS.iload X120.here hx rfl (hb hby d2_202) rfl ?_
    refine XS.iloadN X120.here hx rfl (hb hby d2_204) rfl ?_
    show Sp p e below T120 (mkF m 205 (lt9 r0 (4 : Int32) (((4 : Int32).toInt64) * (((4 : Int32) - (1 : Int32)).toInt64)) (((0 : Int32) + (1 : Int32)) + (1 : Int32))) [(.int (4 : Int32)), (.int (((0 : Int32) + (1 : Int32)) + (1 : Int32)))]) _
    refine XS.icmpNo X120.here hx rfl (hb hby d2_205) rfl (tlt (by decide : ((((0 : Int32) + (1 : Int32)) + (1 : Int32)) < (4 : Int32)))).2.1 ?_
    show Sp p e below T120 (mkF m 208 (lt9 r0 (4 : Int32) (((4 : Int32).toInt64) * (((4 : Int32) - (1 : Int32)).toInt64)) (((0 : Int32) + (1 : Int32)) + (1 : Int32))) []) _
    refine XS.aloadN X120.here hx rfl (hb hby d2_208) rfl rfl ?_
    show Sp p e below T120 (mkF m 209 (lt9 r0 (4 : Int32) (((4 : Int32).toInt64) * (((4 : Int32) - (1 : Int32)).toInt64)) (((0 : Int32) + (1 : Int32)) + (1 : Int32))) [(.ref r0)]) _
    refine st122 _ ?_
    show Sp p e below T122 (mkF m 212 (lt9 r0 (4 : Int32) (((4 : Int32).toInt64) * (((4 : Int32) - (1 : Int32)).toInt64)) (((0 : Int32) + (1 : Int32)) + (1 : Int32))) [(.ref b77)]) _
    refine XS.iload X122.here hx rfl (hb hby d2_212) rfl ?_
    refine XS.iload X122.here hx rfl (hb hby d2_214) rfl ?_
    show Sp p e below T122 (mkF m 216 (lt9 r0 (4 : Int32) (((4 : Int32).toInt64) * (((4 : Int32) - (1 : Int32)).toInt64)) (((0 : Int32) + (1 : Int32)) + (1 : Int32))) [(.int (((0 : Int32) + (1 : Int32)) + (1 : Int32))), (.int (((0 : Int32) + (1 : Int32)) + (1 : Int32))), (.ref b77)]) _
    refine st125 _ ?_
    show Sp p e below T125 (mkF m 217 (lt9 r0 (4 : Int32) (((4 : Int32).toInt64) * (((4 : Int32) - (1 : Int32)).toInt64)) (((0 : Int32) + (1 : Int32)) + (1 : Int32))) []) _
    refine XS.aloadN X125.here hx rfl (hb hby d2_217) rfl rfl ?_
    show Sp p e below T125 (mkF m 218 (lt9 r0 (4 : Int32) (((4 : Int32).toInt64) * (((4 : Int32) - (1 : Int32)).toInt64)) (((0 : Int32) + (1 : Int32)) + (1 : Int32))) [(.ref r0)]) _
    refine st127 _ ?_
    show Sp p e below T127 (mkF m 221 (lt9 r0 (4 : Int32) (((4 : Int32).toInt64) * (((4 : Int32) - (1 : Int32)).toInt64)) (((0 : Int32) + (1 : Int32)) + (1 : Int32))) [(.ref b94)]) _
    refine XS.iload X127.here hx rfl (hb hby d2_221) rfl ?_
    refine XS.iconst X127.here hx rfl (hb hby d2_223) ?_
    show Sp p e below T127 (mkF m 224 (lt9 r0 (4 : Int32) (((4 : Int32).toInt64) * (((4 : Int32) - (1 : Int32)).toInt64)) (((0 : Int32) + (1 : Int32)) + (1 : Int32))) [(.int (1 : Int32)), (.int (((0 : Int32) + (1 : Int32)) + (1 : Int32))), (.ref b94)]) _
    refine st130 _ ?_
    show Sp p e below T130 (mkF m 225 (lt9 r0 (4 : Int32) (((4 : Int32).toInt64) * (((4 : Int32) - (1 : Int32)).toInt64)) (((0 : Int32) + (1 : Int32)) + (1 : Int32))) []) _
    refine XS.iinc X130.here hx rfl (hb hby d2_225) rfl (l' := (lt9 r0 (4 : Int32) (((4 : Int32).toInt64) * (((4 : Int32) - (1 : Int32)).toInt64)) ((((0 : Int32) + (1 : Int32)) + (1 : Int32)) + (1 : Int32)))) rfl ?_
    show Sp p e below T130 (mkF m 228 (lt9 r0 (4 : Int32) (((4 : Int32).toInt64) * (((4 : Int32) - (1 : Int32)).toInt64)) ((((0 : Int32) + (1 : Int32)) + (1 : Int32)) + (1 : Int32))) []) _
    refine XS.goto X130.here hx rfl (pc0 := 228) (pc' := 202) rfl (hb hby d2_228) (by decide) (by decide) ?_
    show Sp p e below T130 (mkF m 202 (lt9 r0 (4 : Int32) (((4 : Int32).toInt64) * (((4 : Int32) - (1 : Int32)).toInt64)) ((((0 : Int32) + (1 : Int32)) + (1 : Int32)) + (1 : Int32))) []) _
    refine XS.iload X130.here hx rfl (hb hby d2_202) rfl ?_
    refine XS.iloadN X130.here hx rfl (hb hby d2_204) rfl ?_
    show Sp p e below T130 (mkF m 205 (lt9 r0 (4 : Int32) (((4 : Int32).toInt64) * (((4 : Int32) - (1 : Int32)).toInt64)) ((((0 : Int32) + (1 : Int32)) + (1 : Int32)) + (1 : Int32))) [(.int (4 : Int32)), (.int ((((0 : Int32) + (1 : Int32)) + (1 : Int32)) + (1 : Int32)))]) _
    refine XS.icmpNo X130.here hx rfl (hb hby d2_205) rfl (tlt (by decide : (((((0 : Int32) + (1 : Int32)) + (1 : Int32)) + (1 : Int32)) < (4 : Int32)))).2.1 ?_
    show Sp p e below T130 (mkF m 208 (lt9 r0 (4 : Int32) (((4 : Int32).toInt64) * (((4 : Int32) - (1 : Int32)).toInt64)) ((((0 : Int32) + (1 : Int32)) + (1 : Int32)) + (1 : Int32))) []) _
    refine XS.aloadN X130.here hx rfl (hb hby d2_208) rfl rfl ?_
    show Sp p e below T130 (mkF m 209 (lt9 r0 (4 : Int32) (((4 : Int32).toInt64) * (((4 : Int32) - (1 : Int32)).toInt64)) ((((0 : Int32) + (1 : Int32)) + (1 : Int32)) + (1 : Int32))) [(.ref r0)]) _
    refine st132 _ ?_
    show Sp p e below T132 (mkF m 212 (lt9 r0 (4 : Int32) (((4 : Int32).toInt64) * (((4 : Int32) - (1 : Int32)).toInt64)) ((((0 : Int32) + (1 : Int32)) + (1 : Int32)) + (1 : Int32))) [(.ref b77)]) _
    refine XS.iload X132.here hx rfl (hb hby d2_212) rfl ?_
    refine XS.iload X132.here hx rfl (hb hby d2_214) rfl ?_
    show Sp p e below T132 (mkF m 216 (lt9 r0 (4 : Int32) (((4 : Int32).toInt64) * (((4 : Int32) - (1 : Int32)).toInt64)) ((((0 : Int32) + (1 : Int32)) + (1 : Int32)) + (1 : Int32))) [(.int ((((0 : Int32) + (1 : Int32)) + (1 : Int32)) + (1 : Int32))), (.int ((((0 : Int32) + (1 : Int32)) + (1 : Int32)) + (1 : Int32))), (.ref b77)]) _
    refine st135 _ ?_
    show Sp p e below T135 (mkF m 217 (lt9 r0 (4 : Int32) (((4 : Int32).toInt64) * (((4 : Int32) - (1 : Int32)).toInt64)) ((((0 : Int32) + (1 : Int32)) + (1 : Int32)) + (1 : Int32))) []) _
    refine XS.aloadN X135.here hx rfl (hb hby d2_217) rfl rfl ?_
    show Sp p e below T135 (mkF m 218 (lt9 r0 (4 : Int32) (((4 : Int32).toInt64) * (((4 : Int32) - (1 : Int32)).toInt64)) ((((0 : Int32) + (1 : Int32)) + (1 : Int32)) + (1 : Int32))) [(.ref r0)]) _
    refine st137 _ ?_
    show Sp p e below T137 (mkF m 221 (lt9 r0 (4 : Int32) (((4 : Int32).toInt64) * (((4 : Int32) - (1 : Int32)).toInt64)) ((((0 : Int32) + (1 : Int32)) + (1 : Int32)) + (1 : Int32))) [(.ref b94)]) _
    refine XS.iload X137.here hx rfl (hb hby d2_221) rfl ?_
    refine XS.iconst X137.here hx rfl (hb hby d2_223) ?_
    show Sp p e below T137 (mkF m 224 (lt9 r0 (4 : Int32) (((4 : Int32).toInt64) * (((4 : Int32) - (1 : Int32)).toInt64)) ((((0 : Int32) + (1 : Int32)) + (1 : Int32)) + (1 : Int32))) [(.int (1 : Int32)), (.int ((((0 : Int32) + (1 : Int32)) + (1 : Int32)) + (1 : Int32))), (.ref b94)]) _
    refine st140 _ ?_
    show Sp p e below T140 (mkF m 225 (lt9 r0 (4 : Int32) (((4 : Int32).toInt64) * (((4 : Int32) - (1 : Int32)).toInt64)) ((((0 : Int32) + (1 : Int32)) + (1 : Int32)) + (1 : Int32))) []) _
    refine XS.iinc X140.here hx rfl (hb hby d2_225) rfl (l' := (lt9 r0 (4 : Int32) (((4 : Int32).toInt64) * (((4 : Int32) - (1 : Int32)).toInt64)) (((((0 : Int32) + (1 : Int32)) + (1 : Int32)) + (1 : Int32)) + (1 : Int32)))) rfl ?_
    show Sp p e below T140 (mkF m 228 (lt9 r0 (4 : Int32) (((4 : Int32).toInt64) * (((4 : Int32) - (1 : Int32)).toInt64)) (((((0 : Int32) + (1 : Int32)) + (1 : Int32)) + (1 : Int32)) + (1 : Int32))) []) _
    refine XS.goto X140.here hx rfl (pc0 := 228) (pc' := 202) rfl (hb hby d2_228) (by decide) (by decide) ?_
    show Sp p e below T140 (mkF m 202 (lt9 r0 (4 : Int32) (((4 : Int32).toInt64) * (((4 : Int32) - (1 : Int32)).toInt64)) (((((0 : Int32) + (1 : Int32)) + (1 : Int32)) + (1 : Int32)) + (1 : Int32))) []) _
    refine XS.iload X140.here hx rfl (hb hby d2_202) rfl ?_
    refine XS.iloadN X140.here hx rfl (hb hby d2_204) rfl ?_
    show Sp p e below T140 (mkF m 205 (lt9 r0 (4 : Int32) (((4 : Int32).toInt64) * (((4 : Int32) - (1 : Int32)).toInt64)) (((((0 : Int32) + (1 : Int32)) + (1 : Int32)) + (1 : Int32)) + (1 : Int32))) [(.int (4 : Int32)), (.int (((((0 : Int32) + (1 : Int32)) + (1 : Int32)) + (1 : Int32)) + (1 : Int32)))]) _
    refine XS.icmpYes X140.here hx rfl (pc0 := 205) (pc' := 231) rfl (hb hby d2_205) rfl (flt (by decide : ¬ ((((((0 : Int32) + (1 : Int32)) + (1 : Int32)) + (1 : Int32)) + (1 : Int32)) < (4 : Int32)))).2.1 (by decide) (by decide) ?_
    show Sp p e below T140 (mkF m 231 (lt9 r0 (4 : Int32) (((4 : Int32).toInt64) * (((4 : Int32) - (1 : Int32)).toInt64)) (((((0 : Int32) + (1 : Int32)) + (1 : Int32)) + (1 : Int32)) + (1 : Int32))) []) _
    refine XS.aloadN X140.here hx rfl (hb hby d2_231) rfl rfl ?_
    refine XS.iloadN X140.here hx rfl (hb hby d2_232) rfl ?_
    show Sp p e below T140 (mkF m 233 (lt9 r0 (4 : Int32) (((4 : Int32).toInt64) * (((4 : Int32) - (1 : Int32)).toInt64)) (((((0 : Int32) + (1 : Int32)) + (1 : Int32)) + (1 : Int32)) + (1 : Int32))) [(.int (4 : Int32)), (.ref r0)]) _
    refine st171 _ ?_
    show Sp p e below T171 (mkF m 235 (lt9 r0 (4 : Int32) (((4 : Int32).toInt64) * (((4 : Int32) - (1 : Int32)).toInt64)) (((((0 : Int32) + (1 : Int32)) + (1 : Int32)) + (1 : Int32)) + (1 : Int32))) [(.ref b171), (.ref r0)]) _
    refine st179 _ ?_
    show Sp p e below T179 (mkF m 238 (lt9 r0 (4 : Int32) (((4 : Int32).toInt64) * (((4 : Int32) - (1 : Int32)).toInt64)) (((((0 : Int32) + (1 : Int32)) + (1 : Int32)) + (1 : Int32)) + (1 : Int32))) []) _
    refine XS.aloadN X179.here hx rfl (hb hby d2_238) rfl rfl ?_
    refine XS.iloadN X179.here hx rfl (hb hby d2_239) rfl ?_
    show Sp p e below T179 (mkF m 240 (lt9 r0 (4 : Int32) (((4 : Int32).toInt64) * (((4 : Int32) - (1 : Int32)).toInt64)) (((((0 : Int32) + (1 : Int32)) + (1 : Int32)) + (1 : Int32)) + (1 : Int32))) [(.int (4 : Int32)), (.ref r0)]) _
    refine st193 _ ?_
    show Sp p e below T193 (mkF m 242 (lt9 r0 (4 : Int32) (((4 : Int32).toInt64) * (((4 : Int32) - (1 : Int32)).toInt64)) (((((0 : Int32) + (1 : Int32)) + (1 : Int32)) + (1 : Int32)) + (1 : Int32))) [(.ref b193), (.ref r0)]) _
    refine st201 _ ?_
    show Sp p e below T201 (mkF m 245 (lt9 r0 (4 : Int32) (((4 : Int32).toInt64) * (((4 : Int32) - (1 : Int32)).toInt64)) (((((0 : Int32) + (1 : Int32)) + (1 : Int32)) + (1 : Int32)) + (1 : Int32))) []) _
    refine XS.aloadN X201.here hx rfl (hb hby d2_245) rfl rfl ?_
    refine XS.iloadN X201.here hx rfl (hb hby d2_246) rfl ?_
    show Sp p e below T201 (mkF m 247 (lt9 r0 (4 : Int32) (((4 : Int32).toInt64) * (((4 : Int32) - (1 : Int32)).toInt64)) (((((0 : Int32) + (1 : Int32)) + (1 : Int32)) + (1 : Int32)) + (1 : Int32))) [(.int (4 : Int32)), (.ref r0)]) _
    refine XS.iconst X201.here hx rfl (hb hby d2_247) ?_
    refine XS.iadd X201.here hx rfl (hb hby d2_248) rfl ?_
    show Sp p e below T201 (mkF m 249 (lt9 r0 (4 : Int32) (((4 : Int32).toInt64) * (((4 : Int32) - (1 : Int32)).toInt64)) (((((0 : Int32) + (1 : Int32)) + (1 : Int32)) + (1 : Int32)) + (1 : Int32))) [(.int ((4 : Int32) + (1 : Int32))), (.ref r0)]) _
    refine st216 _ ?_
    show Sp p e below T216 (mkF m 251 (lt9 r0 (4 : Int32) (((4 : Int32).toInt64) * (((4 : Int32) - (1 : Int32)).toInt64)) (((((0 : Int32) + (1 : Int32)) + (1 : Int32)) + (1 : Int32)) + (1 : Int32))) [(.ref b216), (.ref r0)]) _
    refine st224 _ ?_
    show Sp p e below T224 (mkF m 254 (lt9 r0 (4 : Int32) (((4 : Int32).toInt64) * (((4 : Int32) - (1 : Int32)).toInt64)) (((((0 : Int32) + (1 : Int32)) + (1 : Int32)) + (1 : Int32)) + (1 : Int32))) []) _
    refine XS.aloadN X224.here hx rfl (hb hby d2_254) rfl rfl ?_
    refine XS.lloadN X224.here hx rfl (hb hby d2_255) rfl ?_
    show Sp p e below T224 (mkF m 256 (lt9 r0 (4 : Int32) (((4 : Int32).toInt64) * (((4 : Int32) - (1 : Int32)).toInt64)) (((((0 : Int32) + (1 : Int32)) + (1 : Int32)) + (1 : Int32)) + (1 : Int32))) [(.long (((4 : Int32).toInt64) * (((4 : Int32) - (1 : Int32)).toInt64))), (.ref r0)]) _
    refine st225 _ ?_
    show Sp p e below T225 (mkF m 259 (lt9 r0 (4 : Int32) (((4 : Int32).toInt64) * (((4 : Int32) - (1 : Int32)).toInt64)) (((((0 : Int32) + (1 : Int32)) + (1 : Int32)) + (1 : Int32)) + (1 : Int32))) [(.int ((((4 : Int32).toInt64) * (((4 : Int32) - (1 : Int32)).toInt64)).toInt32)), (.ref r0)]) _
    refine st241 _ ?_
    show Sp p e below T241 (mkF m 261 (lt9 r0 (4 : Int32) (((4 : Int32).toInt64) * (((4 : Int32) - (1 : Int32)).toInt64)) (((((0 : Int32) + (1 : Int32)) + (1 : Int32)) + (1 : Int32)) + (1 : Int32))) [(.ref b241), (.ref r0)]) _
    refine st250 _ ?_
    show Sp p e below T250 (mkF m 264 (lt9 r0 (4 : Int32) (((4 : Int32).toInt64) * (((4 : Int32) - (1 : Int32)).toInt64)) (((((0 : Int32) + (1 : Int32)) + (1 : Int32)) + (1 : Int32)) + (1 : Int32))) []) _
    exact X250.returnOut hx Bd.returns (hb hby d2_264) hr
  · show Q2n2x1 Z r0 h0 n0 _ T250.heap _
    rw [e250]
    exact ⟨A, K, b11, rfl, N250, O250, B339⟩
theorem pn_1x1 : plainName "com/example/onetree/onetree/EdgeStates" = true := by first | (simp [plainName, overriddenIn]; done) | decide +kernel
theorem ef_1x1 (m : MethodId) (r0 : Addr) : entryFrame m #[(.ref r0), (.int (4 : Int32))] 2 = mkF m 0 #[.val (.ref r0), .val (.int (4 : Int32))] [] := by first | (simp [entryFrame, mkF, argsToLocals, Value.category]; done) | rfl
def Q1x1 (Z : State) (r0 : Addr) (h0 : Heap) (n0 : Nat) (v : Option Value) (h : Heap) (L : List Loc) : Prop := ∃ (A : Nat → Addr) (K : Nat → ClassId) (S0 : Addr), v = none ∧ Fr n0 L ∧ Old Z n0 h ∧ EB Z n0 false h r0 A K S0 4 M0
set_option maxRecDepth 65536 in
set_option maxHeartbeats 40000000 in
theorem rm1x1 (l : Launch) (Z : State) (a0 : Array Value) (hw : ∀ d ∈ tables_1, d.before a0 Z = true) (ws : List Jvm.Cond) (hS : StF Z) (r0 : Addr) (h0 : Heap) (n0 : Nat) (O0 : Old Z n0 h0) (g_r0 : n0 ≤ r0) (E_r0 : Exa Z h0 r0 "com/example/onetree/onetree/EdgeStates") (F_cities_r0 : Fld Z h0 r0 "com/example/onetree/onetree/EdgeStates" "cities" "I" (.int (0 : Int32))) (F_fixedEdges_r0 : Fld Z h0 r0 "com/example/onetree/onetree/EdgeStates" "fixedEdges" "[[I" .null) (F_forcedDegree_r0 : Fld Z h0 r0 "com/example/onetree/onetree/EdgeStates" "forcedDegree" "[I" .null) (F_isPending_r0 : Fld Z h0 r0 "com/example/onetree/onetree/EdgeStates" "isPending" "[Z" .null) (F_listStart_r0 : Fld Z h0 r0 "com/example/onetree/onetree/EdgeStates" "listStart" "[I" .null) (F_listed_r0 : Fld Z h0 r0 "com/example/onetree/onetree/EdgeStates" "listed" "Z" (.int (0 : Int32))) (F_neighbours_r0 : Fld Z h0 r0 "com/example/onetree/onetree/EdgeStates" "neighbours" "[I" .null) (F_openDegree_r0 : Fld Z h0 r0 "com/example/onetree/onetree/EdgeStates" "openDegree" "[I" .null) (F_otherEnd_r0 : Fld Z h0 r0 "com/example/onetree/onetree/EdgeStates" "otherEnd" "[I" .null) (F_pathSize_r0 : Fld Z h0 r0 "com/example/onetree/onetree/EdgeStates" "pathSize" "[I" .null) (F_pending_r0 : Fld Z h0 r0 "com/example/onetree/onetree/EdgeStates" "pending" "[I" .null) (F_pendingCount_r0 : Fld Z h0 r0 "com/example/onetree/onetree/EdgeStates" "pendingCount" "I" (.int (0 : Int32))) (F_pendingHead_r0 : Fld Z h0 r0 "com/example/onetree/onetree/EdgeStates" "pendingHead" "I" (.int (0 : Int32))) (F_states_r0 : Fld Z h0 r0 "com/example/onetree/onetree/EdgeStates" "states" "[[B" .null) (F_trail_r0 : Fld Z h0 r0 "com/example/onetree/onetree/EdgeStates" "trail" "[I" .null) (F_trailSize_r0 : Fld Z h0 r0 "com/example/onetree/onetree/EdgeStates" "trailSize" "I" (.int (0 : Int32))) :
    MetFree l Y12 (head1 (Jvm.Cond.code Y12 prog_7_method_1_code 2 none :: ws) ({ frames := 2, cells := 15, slots := 97, locals := 33 } : Room)) (fun a U => a = #[(.ref r0), (.int (4 : Int32))] ∧ Z.Warmed39 U.vm ∧ U.heap = h0) (fun _ _ _ _ _ => True) (fun _ U o U' => ∃ v L, o = .returned v ∧ Q1x1 Z r0 h0 n0 v U'.heap L ∧ FrameEnd U o U' L ({ frames := 2, cells := 15, slots := 97, locals := 33 } : Room).cells ({ frames := 2, cells := 15, slots := 97, locals := 33 } : Room).slots) := by
  refine MetFree.of_bodySF (plainFor_of_name pn_1x1) hisR ?_
  intro p e s m args below meth c s₁ Bd hml0 hP hK
  obtain ⟨rfl, hZ, hh⟩ := hP
  have hx := Bd.exec
  have hby := Bd.bytes
  have hml : c.maxLocals = 2 := hml0
  have hown : s.vm.findClass "com/example/onetree/onetree/EdgeStates" = some m.cls := findClass_of_methodNamed Bd.named
  have hnm := (name_of_methodNamed Bd.named Bd.method).1
  have X0 : Stand p l e ({ frames := 2, cells := 15, slots := 97, locals := 33 } : Room) s m #[(.ref r0), (.int (4 : Int32))] below meth c s₁ [] 0 0 := Stand.of_body Bd
  have e0 : s₁.heap = h0 := by rw [← hh, Bd.state]; rfl
  have N0 := Fr.nil n0
  have hS0 := hS
  skip
  have pre0 : ∀ t, Steps p.tables e below (s₁.setTop (mkF m 0 #[.val (.ref r0), .val (.int (4 : Int32))] [])) t → Steps p.tables e below (s₁.setTop (entryFrame m #[(.ref r0), (.int (4 : Int32))] 2)) t := fun t k => castTop (ef_1x1 m r0) k
  generalize hE0 : s₁.setTop (entryFrame m #[(.ref r0), (.int (4 : Int32))] 2) = E0 at pre0 ⊢
  obtain ⟨_, _, ⟨T340, L340, k340, n340⟩, -, X340, ⟨Lc340, hQ340, l340, y340, z340⟩, st340⟩ := X0.specialBack hx (y := Y11) rfl hown (mvT hZ (hw _ (tk 6 rfl))) (mvT hZ (hw _ (tk 7 rfl))) (mvT hZ (hw _ (tk 8 rfl))) (by decide) (backOf (W := 0) (rm2n2x1 l Z a0 hw [] hS0 r0 h0 n0 O0 g_r0 E_r0 F_cities_r0 F_fixedEdges_r0 F_forcedDegree_r0 F_isPending_r0 F_listStart_r0 F_listed_r0 F_neighbours_r0 F_openDegree_r0 F_otherEnd_r0 F_pathSize_r0 F_pending_r0 F_pendingCount_r0 F_pendingHead_r0 F_states_r0 F_trail_r0 F_trailSize_r0) hZ (hw _ (tk 8 rfl)) (hw _ (tk 2 rfl)) (by decide) (by decide)) (g := (mkF m 3 (lt2 r0 (4 : Int32)) [.null, (.int (4 : Int32)), (.ref r0)])) rfl (by rw [hml]; rfl) (Steps.refl _) (a := r0) (argsL := [(.int (4 : Int32)), .null]) (rest := []) (lenOf pd_2 rfl) rfl (by show 2 * 0 + _ ≤ _; exact Nat.le_of_eq rfl) (hb hby d1_3) (fun _ _ => ⟨rfl, e0, (by decide : 0 + 15 ≤ _), (by decide : 0 + 97 ≤ _)⟩)
  dsimp only [Pt.U, Pt.locs, Pt.cells, Pt.slots] at X340 l340 y340 z340 st340 hQ340
  rw [l340, y340, z340] at X340
  obtain ⟨A, K, S0, rv340, N340q, O340, B340⟩ := hQ340
  subst rv340
  have N340 := Fr.app N0 N340q
  obtain ⟨fs, hr, hrun, hended, hW, hsame⟩ := X340.leave (v := none) (fun _ => rfl) (BodyLoose.notSynchronized Bd)
  refine ⟨_, _, pre0 _ ?_, hrun, hended, _, _, rfl, ?_, ⟨_, rfl⟩, hW, hsame.mono (by decide) (by decide)⟩
  · show Sp p e below s₁ (mkF m 0 (lt2 r0 (4 : Int32)) []) _
    refine XS.aloadN X0.here hx rfl (hb hby d1_0) rfl rfl ?_
    refine XS.iloadN X0.here hx rfl (hb hby d1_1) rfl ?_
    show Sp p e below s₁ (mkF m 2 (lt2 r0 (4 : Int32)) [(.int (4 : Int32)), (.ref r0)]) _
    refine XS.aconstNull X0.here hx rfl (hb hby d1_2) ?_
    show Sp p e below s₁ (mkF m 3 (lt2 r0 (4 : Int32)) [.null, (.int (4 : Int32)), (.ref r0)]) _
    refine st340.trans ?_
    show Sp p e below T340 (mkF m 6 (lt2 r0 (4 : Int32)) []) _
    exact X340.returnOut hx Bd.returns (hb hby d1_6) hr
  · show Q1x1 Z r0 h0 n0 _ T340.heap _
    exact ⟨A, K, S0, rfl, N340, O340, B340⟩
theorem pn_17 : plainName "com/example/onetree/onetree/EdgeStates" = true := by first | (simp [plainName, overriddenIn]; done) | decide +kernel
def f17 (nc : Nat) (M : MM) (p1 : Int32) (p2 : Int32) (p3 : Int32) : Option (Int32 × MM) := nam (sto M 10 0 (0 : Int32)) fun M355 => nai (ld M355 9 0) fun v358 => nam (sto M355 9 0 (v358 + (1 : Int32))) fun M361 => gd (inr v358 (lnR nc 6)) (nam (sto M361 6 (ix v358) p1) fun M366 => nai (ld M366 9 0) fun v369 => nam (sto M366 9 0 (v369 + (1 : Int32))) fun M372 => gd (inr v369 (lnR nc 6)) (nam (sto M372 6 (ix v369) p2) fun M377 => gd (inr p1 nc) (gd (inr p2 nc) (nam (sto M377 (14 + ix p1) (ix p2) (nar .byte p3)) fun M386 => nam (sto M386 (14 + ix p2) (ix p1) (nar .byte p3)) fun M391 => some (0, M391)))))
theorem ef_17 (m : MethodId) (x : Addr) (A : Nat → Addr) (p1 : Int32) (p2 : Int32) (p3 : Int32) : entryFrame m #[(.ref x), (.int p1), (.int p2), (.int p3)] 4 = mkF m 0 #[.val (.ref x), .val (.int p1), .val (.int p2), .val (.int p3)] [] := by first | (simp [entryFrame, mkF, argsToLocals, Value.category]; done) | rfl
def Q17 (Z : State) (n0 : Nat) (ex : Bool) (x : Addr) (A : Nat → Addr) (K : Nat → ClassId) (S0 : Addr) (nc : Nat) (rv : Int32) (M' : MM) (v : Option Value) (h : Heap) (L : List Loc) : Prop := v = none ∧ Fr n0 L ∧ Old Z n0 h ∧ EB Z n0 ex h x A K S0 nc M'
set_option maxRecDepth 65536 in
set_option maxHeartbeats 40000000 in
theorem rm17 (l : Launch) (Z : State) (a0 : Array Value) (hw : ∀ d ∈ tables_1, d.before a0 Z = true) (ws : List Jvm.Cond) (hSl : SlotsOK Z) (ex : Bool) (x : Addr) (A : Nat → Addr) (K : Nat → ClassId) (S0 : Addr) (nc : Nat) (M : MM) (p1 : Int32) (p2 : Int32) (p3 : Int32) (rv : Int32) (M' : MM) (h0 : Heap) (n0 : Nat) (O0 : Old Z n0 h0) (B0 : EB Z n0 ex h0 x A K S0 nc M) (hf : f17 nc M p1 p2 p3 = some (rv, M')) :
    MetFree l Y18 (head1 (Jvm.Cond.code Y18 prog_7_method_25_code 4 none :: ws) ({ frames := 0, cells := 0, slots := 0, locals := 0 } : Room)) (fun a U => a = #[(.ref x), (.int p1), (.int p2), (.int p3)] ∧ Z.Warmed39 U.vm ∧ U.heap = h0) (fun _ _ _ _ _ => True) (fun _ U o U' => ∃ v L, o = .returned v ∧ Q17 Z n0 ex x A K S0 nc rv M' v U'.heap L ∧ FrameEnd U o U' L ({ frames := 0, cells := 0, slots := 0, locals := 0 } : Room).cells ({ frames := 0, cells := 0, slots := 0, locals := 0 } : Room).slots) := by
  refine MetFree.of_bodySF (plainFor_of_name pn_17) hisR ?_
  intro p e s m args below meth c s₁ Bd hml0 hP hK
  obtain ⟨rfl, hZ, hh⟩ := hP
  have hx := Bd.exec
  have hby := Bd.bytes
  have hml : c.maxLocals = 4 := hml0
  have hown : s.vm.findClass "com/example/onetree/onetree/EdgeStates" = some m.cls := findClass_of_methodNamed Bd.named
  have X0 : Stand p l e ({ frames := 0, cells := 0, slots := 0, locals := 0 } : Room) s m #[(.ref x), (.int p1), (.int p2), (.int p3)] below meth c s₁ [] 0 0 := Stand.of_body Bd
  have e0 : s₁.heap = h0 := by rw [← hh, Bd.state]; rfl
  have N0 := Fr.nil n0
  have pre0 : ∀ t, Steps p.tables e below (s₁.setTop (mkF m 0 #[.val (.ref x), .val (.int p1), .val (.int p2), .val (.int p3)] [])) t → Steps p.tables e below (s₁.setTop (entryFrame m #[(.ref x), (.int p1), (.int p2), (.int p3)] 4)) t := fun t k => castTop (ef_17 m x A p1 p2 p3) k
  generalize hE0 : s₁.setTop (entryFrame m #[(.ref x), (.int p1), (.int p2), (.int p3)] 4) = E0 at pre0 ⊢
  apply Classical.byContradiction
  intro hno
  unfold f17 at hf
  obtain ⟨T355, h355, X355, e355, W355, st355⟩ := putFN X0 hx hZ hown (hw _ (tk 69 rfl)) Via.refl e0 (B0.sca 1 rfl) B0.exa (Or.inl (hw _ (tk 70 rfl))) (hw _ (tk 1 rfl)) (ty := .boolean) (v' := (.int (0 : Int32))) (by decide) rfl (by decide) (g := (mkF m 2 (lt6 x p1 p2 p3) [(.int (0 : Int32)), (.ref x)])) rfl rfl (hb hby d17_2)
  obtain ⟨M355, d_M355, hf356⟩ := own_nam hf
  clear hf
  have B355 := B0.put hSl 1 rfl W355
  rw [← d_M355] at B355
  have O355 : Old Z n0 h355 := O0.wr W355 B0.oldx
  have N355 := Fr.snoc X355 N0 B0.oldx
  obtain ⟨T357, X357, e357, st357⟩ := getF X355 hx hZ hown (host := "") (Or.inl (hw _ (tk 37 rfl))) Via.refl e355 (B355.fld 8 rfl) (g := (mkF m 6 (lt6 x p1 p2 p3) [(.ref x)])) rfl rfl (hb hby d17_6)
  obtain ⟨v358, d_v358, hf359⟩ := own_nai hf356
  clear hf356
  obtain ⟨T360, X360, e360, st360⟩ := getF X357 hx hZ hown (host := "") (Or.inl (hw _ (tk 62 rfl))) Via.refl e357 (own_rwF d_v358 (B355.sca 0 rfl)) (g := (mkF m 11 (lt6 x p1 p2 p3) [(.ref x), (.ref x), (.ref (A 6))])) rfl rfl (hb hby d17_11)
  obtain ⟨T361, h361, X361, e361, W361, st361⟩ := putF X360 hx hZ hown (host := "") (Or.inl (hw _ (tk 62 rfl))) Via.refl e360 (B355.sca 0 rfl) B355.exa (Or.inl (hw _ (tk 63 rfl))) (hw _ (tk 1 rfl)) (ty := .int) (by decide) rfl rfl (g := (mkF m 17 (lt6 x p1 p2 p3) [(.int (v358 + (1 : Int32))), (.ref x), (.int v358), (.ref (A 6))])) rfl rfl (hb hby d17_17)
  obtain ⟨M361, d_M361, hf362⟩ := own_nam hf359
  clear hf359
  have B361 := B355.put hSl 0 rfl W361
  rw [← d_M361] at B361
  have O361 : Old Z n0 h361 := O355.wr W361 B355.oldx
  have N361 := Fr.snoc X361 N355 B355.oldx
  obtain ⟨g363, hf364⟩ := own_gd hf362
  clear hf362
  obtain ⟨cl365, Ar365, hin365⟩ := B361.at 6 (Or.inl (by decide)) g363
  have At365 : Arr Z h361 (A 6) cl365 .int := Ar365
  obtain ⟨T366, h366, X366, e366, W366, st366⟩ := stI X361 hx hZ e361 At365 (j := v358) hin365 (g := (mkF m 21 (lt6 x p1 p2 p3) [(.int p1), (.int v358), (.ref (A 6))])) rfl rfl (hb hby d17_21)
  obtain ⟨M366, d_M366, hf367⟩ := own_nam hf364
  clear hf364
  have B366 := B361.wr (v := p1) 6 (Or.inl (by decide)) g363 W366 rfl
  rw [← d_M366] at B366
  have O366 : Old Z n0 h366 := O361.wr W366 (B361.old 6 (Or.inl (by decide)))
  have N366 := Fr.snoc X366 N361 (B361.old 6 (Or.inl (by decide)))
  obtain ⟨T368, X368, e368, st368⟩ := getF X366 hx hZ hown (host := "") (Or.inl (hw _ (tk 37 rfl))) Via.refl e366 (B366.fld 8 rfl) (g := (mkF m 23 (lt6 x p1 p2 p3) [(.ref x)])) rfl rfl (hb hby d17_23)
  obtain ⟨v369, d_v369, hf370⟩ := own_nai hf367
  clear hf367
  obtain ⟨T371, X371, e371, st371⟩ := getF X368 hx hZ hown (host := "") (Or.inl (hw _ (tk 62 rfl))) Via.refl e368 (own_rwF d_v369 (B366.sca 0 rfl)) (g := (mkF m 28 (lt6 x p1 p2 p3) [(.ref x), (.ref x), (.ref (A 6))])) rfl rfl (hb hby d17_28)
  obtain ⟨T372, h372, X372, e372, W372, st372⟩ := putF X371 hx hZ hown (host := "") (Or.inl (hw _ (tk 62 rfl))) Via.refl e371 (B366.sca 0 rfl) B366.exa (Or.inl (hw _ (tk 63 rfl))) (hw _ (tk 1 rfl)) (ty := .int) (by decide) rfl rfl (g := (mkF m 34 (lt6 x p1 p2 p3) [(.int (v369 + (1 : Int32))), (.ref x), (.int v369), (.ref (A 6))])) rfl rfl (hb hby d17_34)
  obtain ⟨M372, d_M372, hf373⟩ := own_nam hf370
  clear hf370
  have B372 := B366.put hSl 0 rfl W372
  rw [← d_M372] at B372
  have O372 : Old Z n0 h372 := O366.wr W372 B366.oldx
  have N372 := Fr.snoc X372 N366 B366.oldx
  obtain ⟨g374, hf375⟩ := own_gd hf373
  clear hf373
  obtain ⟨cl376, Ar376, hin376⟩ := B372.at 6 (Or.inl (by decide)) g374
  have At376 : Arr Z h372 (A 6) cl376 .int := Ar376
  obtain ⟨T377, h377, X377, e377, W377, st377⟩ := stI X372 hx hZ e372 At376 (j := v369) hin376 (g := (mkF m 38 (lt6 x p1 p2 p3) [(.int p2), (.int v369), (.ref (A 6))])) rfl rfl (hb hby d17_38)
  obtain ⟨M377, d_M377, hf378⟩ := own_nam hf375
  clear hf375
  have B377 := B372.wr (v := p2) 6 (Or.inl (by decide)) g374 W377 rfl
  rw [← d_M377] at B377
  have O377 : Old Z n0 h377 := O372.wr W377 (B372.old 6 (Or.inl (by decide)))
  have N377 := Fr.snoc X377 N372 (B372.old 6 (Or.inl (by decide)))
  obtain ⟨T379, X379, e379, st379⟩ := getF X377 hx hZ hown (host := "") (Or.inl (hw _ (tk 21 rfl))) Via.refl e377 (B377.fld 1 rfl) (g := (mkF m 40 (lt6 x p1 p2 p3) [(.ref x)])) rfl rfl (hb hby d17_40)
  obtain ⟨g380, hf381⟩ := own_gd hf378
  clear hf378
  obtain ⟨cl382, Ar382, hin382, hat382⟩ := B377.getS g380
  obtain ⟨g383, hf384⟩ := own_gd hf381
  clear hf381
  obtain ⟨cl385, Ar385, hin385⟩ := B377.at (14 + ix p1) (B377.isS g380) (own_gS g383)
  have At385 := own_tyA Ar385
  obtain ⟨T386, h386, X386, e386, W386, st386⟩ := stB X379 hx hZ e379 At385 (j := p2) hin385 (g := (mkF m 47 (lt6 x p1 p2 p3) [(.int p3), (.int p2), (.ref (A (14 + ix p1)))])) rfl rfl (hb hby d17_47)
  obtain ⟨M386, d_M386, hf387⟩ := own_nam hf384
  clear hf384
  have B386 := B377.wr (v := (nar .byte p3)) (14 + ix p1) (B377.isS g380) (own_gS g383) W386 (own_fitS (fits_nar_byte _))
  rw [← d_M386] at B386
  have O386 : Old Z n0 h386 := O377.wr W386 (B377.old (14 + ix p1) (B377.isS g380))
  have N386 := Fr.snoc X386 N377 (B377.old (14 + ix p1) (B377.isS g380))
  obtain ⟨T388, X388, e388, st388⟩ := getF X386 hx hZ hown (host := "") (Or.inl (hw _ (tk 21 rfl))) Via.refl e386 (B386.fld 1 rfl) (g := (mkF m 49 (lt6 x p1 p2 p3) [(.ref x)])) rfl rfl (hb hby d17_49)
  obtain ⟨cl389, Ar389, hin389, hat389⟩ := B386.getS g383
  obtain ⟨cl390, Ar390, hin390⟩ := B386.at (14 + ix p2) (B386.isS g383) (own_gS g380)
  have At390 := own_tyA Ar390
  obtain ⟨T391, h391, X391, e391, W391, st391⟩ := stB X388 hx hZ e388 At390 (j := p1) hin390 (g := (mkF m 56 (lt6 x p1 p2 p3) [(.int p3), (.int p1), (.ref (A (14 + ix p2)))])) rfl rfl (hb hby d17_56)
  obtain ⟨M391, d_M391, hf392⟩ := own_nam hf387
  clear hf387
  have B391 := B386.wr (v := (nar .byte p3)) (14 + ix p2) (B386.isS g383) (own_gS g380) W391 (own_fitS (fits_nar_byte _))
  rw [← d_M391] at B391
  have O391 : Old Z n0 h391 := O386.wr W391 (B386.old (14 + ix p2) (B386.isS g383))
  have N391 := Fr.snoc X391 N386 (B386.old (14 + ix p2) (B386.isS g383))
  obtain ⟨rfl, rfl⟩ := own_ret hf392
  obtain ⟨fs, hr, hrun, hended, hW, hsame⟩ := X391.leave (v := none) (fun _ => rfl) (BodyLoose.notSynchronized Bd)
  refine hno ⟨_, _, pre0 _ ?_, hrun, hended, _, _, rfl, ?_, ⟨_, rfl⟩, hW, hsame.mono (by decide) (by decide)⟩
  · show Sp p e below s₁ (mkF m 0 (lt6 x p1 p2 p3) []) _
    refine XS.aloadN X0.here hx rfl (hb hby d17_0) rfl rfl ?_
    refine XS.iconst X0.here hx rfl (hb hby d17_1) ?_
    show Sp p e below s₁ (mkF m 2 (lt6 x p1 p2 p3) [(.int (0 : Int32)), (.ref x)]) _
    refine st355 _ ?_
    show Sp p e below T355 (mkF m 5 (lt6 x p1 p2 p3) []) _
    refine XS.aloadN X355.here hx rfl (hb hby d17_5) rfl rfl ?_
    show Sp p e below T355 (mkF m 6 (lt6 x p1 p2 p3) [(.ref x)]) _
    refine st357 _ ?_
    show Sp p e below T357 (mkF m 9 (lt6 x p1 p2 p3) [(.ref (A 6))]) _
    refine XS.aloadN X357.here hx rfl (hb hby d17_9) rfl rfl ?_
    refine XS.dup X357.here hx rfl (hb hby d17_10) rfl rfl ?_
    show Sp p e below T357 (mkF m 11 (lt6 x p1 p2 p3) [(.ref x), (.ref x), (.ref (A 6))]) _
    refine st360 _ ?_
    show Sp p e below T360 (mkF m 14 (lt6 x p1 p2 p3) [(.int v358), (.ref x), (.ref (A 6))]) _
    refine XS.dupX1 X360.here hx rfl (hb hby d17_14) rfl rfl rfl ?_
    refine XS.iconst X360.here hx rfl (hb hby d17_15) ?_
    show Sp p e below T360 (mkF m 16 (lt6 x p1 p2 p3) [(.int (1 : Int32)), (.int v358), (.ref x), (.int v358), (.ref (A 6))]) _
    refine XS.iadd X360.here hx rfl (hb hby d17_16) rfl ?_
    show Sp p e below T360 (mkF m 17 (lt6 x p1 p2 p3) [(.int (v358 + (1 : Int32))), (.ref x), (.int v358), (.ref (A 6))]) _
    refine st361 _ ?_
    show Sp p e below T361 (mkF m 20 (lt6 x p1 p2 p3) [(.int v358), (.ref (A 6))]) _
    refine XS.iloadN X361.here hx rfl (hb hby d17_20) rfl ?_
    show Sp p e below T361 (mkF m 21 (lt6 x p1 p2 p3) [(.int p1), (.int v358), (.ref (A 6))]) _
    refine st366 _ ?_
    show Sp p e below T366 (mkF m 22 (lt6 x p1 p2 p3) []) _
    refine XS.aloadN X366.here hx rfl (hb hby d17_22) rfl rfl ?_
    show Sp p e below T366 (mkF m 23 (lt6 x p1 p2 p3) [(.ref x)]) _
    refine st368 _ ?_
    show Sp p e below T368 (mkF m 26 (lt6 x p1 p2 p3) [(.ref (A 6))]) _
    refine XS.aloadN X368.here hx rfl (hb hby d17_26) rfl rfl ?_
    refine XS.dup X368.here hx rfl (hb hby d17_27) rfl rfl ?_
    show Sp p e below T368 (mkF m 28 (lt6 x p1 p2 p3) [(.ref x), (.ref x), (.ref (A 6))]) _
    refine st371 _ ?_
    show Sp p e below T371 (mkF m 31 (lt6 x p1 p2 p3) [(.int v369), (.ref x), (.ref (A 6))]) _
    refine XS.dupX1 X371.here hx rfl (hb hby d17_31) rfl rfl rfl ?_
    refine XS.iconst X371.here hx rfl (hb hby d17_32) ?_
    show Sp p e below T371 (mkF m 33 (lt6 x p1 p2 p3) [(.int (1 : Int32)), (.int v369), (.ref x), (.int v369), (.ref (A 6))]) _
    refine XS.iadd X371.here hx rfl (hb hby d17_33) rfl ?_
    show Sp p e below T371 (mkF m 34 (lt6 x p1 p2 p3) [(.int (v369 + (1 : Int32))), (.ref x), (.int v369), (.ref (A 6))]) _
    refine st372 _ ?_
    show Sp p e below T372 (mkF m 37 (lt6 x p1 p2 p3) [(.int v369), (.ref (A 6))]) _
    refine XS.iloadN X372.here hx rfl (hb hby d17_37) rfl ?_
    show Sp p e below T372 (mkF m 38 (lt6 x p1 p2 p3) [(.int p2), (.int v369), (.ref (A 6))]) _
    refine st377 _ ?_
    show Sp p e below T377 (mkF m 39 (lt6 x p1 p2 p3) []) _
    refine XS.aloadN X377.here hx rfl (hb hby d17_39) rfl rfl ?_
    show Sp p e below T377 (mkF m 40 (lt6 x p1 p2 p3) [(.ref x)]) _
    refine st379 _ ?_
    show Sp p e below T379 (mkF m 43 (lt6 x p1 p2 p3) [(.ref S0)]) _
    refine XS.iloadN X379.here hx rfl (hb hby d17_43) rfl ?_
    show Sp p e below T379 (mkF m 44 (lt6 x p1 p2 p3) [(.int p1), (.ref S0)]) _
    refine X379.aaload hx (j := p1) (v := .ref (A (14 + ix p1))) (by rw [e379]; exact Ar382.1) (State.isArrayOf_alike hZ.alike Ar382.2.1) rfl Ar382.2.2 hin382 hat382 (g := (mkF m 44 (lt6 x p1 p2 p3) [(.int p1), (.ref S0)])) rfl rfl (hb hby d17_44) _ ?_
    show Sp p e below T379 (mkF m 45 (lt6 x p1 p2 p3) [(.ref (A (14 + ix p1)))]) _
    refine XS.iloadN X379.here hx rfl (hb hby d17_45) rfl ?_
    refine XS.iloadN X379.here hx rfl (hb hby d17_46) rfl ?_
    show Sp p e below T379 (mkF m 47 (lt6 x p1 p2 p3) [(.int p3), (.int p2), (.ref (A (14 + ix p1)))]) _
    refine st386 _ ?_
    show Sp p e below T386 (mkF m 48 (lt6 x p1 p2 p3) []) _
    refine XS.aloadN X386.here hx rfl (hb hby d17_48) rfl rfl ?_
    show Sp p e below T386 (mkF m 49 (lt6 x p1 p2 p3) [(.ref x)]) _
    refine st388 _ ?_
    show Sp p e below T388 (mkF m 52 (lt6 x p1 p2 p3) [(.ref S0)]) _
    refine XS.iloadN X388.here hx rfl (hb hby d17_52) rfl ?_
    show Sp p e below T388 (mkF m 53 (lt6 x p1 p2 p3) [(.int p2), (.ref S0)]) _
    refine X388.aaload hx (j := p2) (v := .ref (A (14 + ix p2))) (by rw [e388]; exact Ar389.1) (State.isArrayOf_alike hZ.alike Ar389.2.1) rfl Ar389.2.2 hin389 hat389 (g := (mkF m 53 (lt6 x p1 p2 p3) [(.int p2), (.ref S0)])) rfl rfl (hb hby d17_53) _ ?_
    show Sp p e below T388 (mkF m 54 (lt6 x p1 p2 p3) [(.ref (A (14 + ix p2)))]) _
    refine XS.iloadN X388.here hx rfl (hb hby d17_54) rfl ?_
    refine XS.iloadN X388.here hx rfl (hb hby d17_55) rfl ?_
    show Sp p e below T388 (mkF m 56 (lt6 x p1 p2 p3) [(.int p3), (.int p1), (.ref (A (14 + ix p2)))]) _
    refine st391 _ ?_
    show Sp p e below T391 (mkF m 57 (lt6 x p1 p2 p3) []) _
    exact X391.returnOut hx Bd.returns (hb hby d17_57) hr
  · show Q17 Z n0 ex x A K S0 nc _ _ _ T391.heap _
    rw [e391]
    exact ⟨rfl, N391, O391, B391⟩
theorem pn_18 : plainName "com/example/onetree/onetree/EdgeStates" = true := by first | (simp [plainName, overriddenIn]; done) | decide +kernel
def f18 (nc : Nat) (M : MM) (p1 : Int32) : Option (Int32 × MM) := gd (inr p1 (lnR nc 5)) (nai (ld M 5 (ix p1)) fun v417 => cnd (eqB v417 (0 : Int32)) (nam (sto M 5 (ix p1) (1 : Int32)) fun M423 => nai (ld M423 11 0) fun v426 => nai (ld M423 12 0) fun v429 => gd (inr ((v426 + v429) % (Int32.ofNat nc)) (lnR nc 4)) (nam (sto M423 4 (ix ((v426 + v429) % (Int32.ofNat nc))) p1) fun M436 => nai (ld M436 12 0) fun v438 => nam (sto M436 12 0 (v438 + (1 : Int32))) fun M441 => some (0, M441))) (some (0, M)))
theorem ef_18 (m : MethodId) (x : Addr) (A : Nat → Addr) (p1 : Int32) : entryFrame m #[(.ref x), (.int p1)] 2 = mkF m 0 #[.val (.ref x), .val (.int p1)] [] := by first | (simp [entryFrame, mkF, argsToLocals, Value.category]; done) | rfl
def Q18 (Z : State) (n0 : Nat) (ex : Bool) (x : Addr) (A : Nat → Addr) (K : Nat → ClassId) (S0 : Addr) (nc : Nat) (rv : Int32) (M' : MM) (v : Option Value) (h : Heap) (L : List Loc) : Prop := v = none ∧ Fr n0 L ∧ Old Z n0 h ∧ EB Z n0 ex h x A K S0 nc M'
set_option maxRecDepth 65536 in
set_option maxHeartbeats 40000000 in
theorem rm18 (l : Launch) (Z : State) (a0 : Array Value) (hw : ∀ d ∈ tables_1, d.before a0 Z = true) (ws : List Jvm.Cond) (hSl : SlotsOK Z) (ex : Bool) (x : Addr) (A : Nat → Addr) (K : Nat → ClassId) (S0 : Addr) (nc : Nat) (M : MM) (p1 : Int32) (rv : Int32) (M' : MM) (h0 : Heap) (n0 : Nat) (O0 : Old Z n0 h0) (B0 : EB Z n0 ex h0 x A K S0 nc M) (hf : f18 nc M p1 = some (rv, M')) :
    MetFree l Y19 (head1 (Jvm.Cond.code Y19 prog_7_method_27_code 2 none :: ws) ({ frames := 0, cells := 0, slots := 0, locals := 0 } : Room)) (fun a U => a = #[(.ref x), (.int p1)] ∧ Z.Warmed39 U.vm ∧ U.heap = h0) (fun _ _ _ _ _ => True) (fun _ U o U' => ∃ v L, o = .returned v ∧ Q18 Z n0 ex x A K S0 nc rv M' v U'.heap L ∧ FrameEnd U o U' L ({ frames := 0, cells := 0, slots := 0, locals := 0 } : Room).cells ({ frames := 0, cells := 0, slots := 0, locals := 0 } : Room).slots) := by
  refine MetFree.of_bodySF (plainFor_of_name pn_18) hisR ?_
  intro p e s m args below meth c s₁ Bd hml0 hP hK
  obtain ⟨rfl, hZ, hh⟩ := hP
  have hx := Bd.exec
  have hby := Bd.bytes
  have hml : c.maxLocals = 2 := hml0
  have hown : s.vm.findClass "com/example/onetree/onetree/EdgeStates" = some m.cls := findClass_of_methodNamed Bd.named
  have X0 : Stand p l e ({ frames := 0, cells := 0, slots := 0, locals := 0 } : Room) s m #[(.ref x), (.int p1)] below meth c s₁ [] 0 0 := Stand.of_body Bd
  have e0 : s₁.heap = h0 := by rw [← hh, Bd.state]; rfl
  have N0 := Fr.nil n0
  have pre0 : ∀ t, Steps p.tables e below (s₁.setTop (mkF m 0 #[.val (.ref x), .val (.int p1)] [])) t → Steps p.tables e below (s₁.setTop (entryFrame m #[(.ref x), (.int p1)] 2)) t := fun t k => castTop (ef_18 m x A p1) k
  generalize hE0 : s₁.setTop (entryFrame m #[(.ref x), (.int p1)] 2) = E0 at pre0 ⊢
  apply Classical.byContradiction
  intro hno
  unfold f18 at hf
  obtain ⟨T413, X413, e413, st413⟩ := getF X0 hx hZ hown (host := "") (Or.inl (hw _ (tk 46 rfl))) Via.refl e0 (B0.fld 7 rfl) (g := (mkF m 1 (lt2 x p1) [(.ref x)])) rfl rfl (hb hby d18_1)
  obtain ⟨g414, hf415⟩ := own_gd hf
  clear hf
  obtain ⟨v417, d_v417, hf418⟩ := own_nai hf415
  clear hf415
  obtain ⟨cl416, Ar416, hin416, hat416⟩ := B0.get 5 (Or.inl (by decide)) g414 d_v417
  have At416 : Arr Z h0 (A 5) cl416 .boolean := Ar416
  have pre419 : Cm p e below E0 (T413.setTop (mkF m 6 (lt2 x p1) [(.int v417)])) := fun t kt => by
    refine pre0 t ?_
    show Sp p e below s₁ (mkF m 0 (lt2 x p1) []) _
    refine XS.aloadN X0.here hx rfl (hb hby d18_0) rfl rfl ?_
    show Sp p e below s₁ (mkF m 1 (lt2 x p1) [(.ref x)]) _
    refine st413 _ ?_
    show Sp p e below T413 (mkF m 4 (lt2 x p1) [(.ref (A 5))]) _
    refine XS.iloadN X413.here hx rfl (hb hby d18_4) rfl ?_
    show Sp p e below T413 (mkF m 5 (lt2 x p1) [(.int p1), (.ref (A 5))]) _
    refine X413.baloadBooleans hx (j := p1) (v := (.int v417)) (by rw [e413]; exact Ar416.1) (State.isArrayOf_alike hZ.alike At416.2.1) At416.2.2 hin416 hat416 (g := (mkF m 5 (lt2 x p1) [(.int p1), (.ref (A 5))])) rfl rfl (hb hby d18_5) _ ?_
    show Sp p e below T413 (mkF m 6 (lt2 x p1) [(.int v417)]) _
    exact kt
  by_cases hc420 : v417 = (0 : Int32)
  · rw [own_eqT hc420] at hf418
    obtain ⟨T421, X421, e421, st421⟩ := getF X413 hx hZ hown (host := "") (Or.inl (hw _ (tk 46 rfl))) Via.refl e413 (B0.fld 7 rfl) (g := (mkF m 10 (lt2 x p1) [(.ref x)])) rfl rfl (hb hby d18_10)
    obtain ⟨cl422, Ar422, hin422⟩ := B0.at 5 (Or.inl (by decide)) g414
    have At422 : Arr Z h0 (A 5) cl422 .boolean := Ar422
    obtain ⟨T423, h423, X423, e423, W423, st423⟩ := stZ X421 hx hZ e421 At422 (j := p1) hin422 (g := (mkF m 15 (lt2 x p1) [(.int (1 : Int32)), (.int p1), (.ref (A 5))])) rfl rfl (hb hby d18_15)
    obtain ⟨M423, d_M423, hf424⟩ := own_nam hf418
    clear hf418
    have B423 := B0.wr (v := (1 : Int32)) 5 (Or.inl (by decide)) g414 W423 (by decide)
    rw [← d_M423] at B423
    have O423 : Old Z n0 h423 := O0.wr W423 (B0.old 5 (Or.inl (by decide)))
    have N423 := Fr.snoc X423 N0 (B0.old 5 (Or.inl (by decide)))
    obtain ⟨T425, X425, e425, st425⟩ := getF X423 hx hZ hown (host := "") (Or.inl (hw _ (tk 43 rfl))) Via.refl e423 (B423.fld 6 rfl) (g := (mkF m 17 (lt2 x p1) [(.ref x)])) rfl rfl (hb hby d18_17)
    obtain ⟨v426, d_v426, hf427⟩ := own_nai hf424
    clear hf424
    obtain ⟨T428, X428, e428, st428⟩ := getF X425 hx hZ hown (host := "") (Or.inl (hw _ (tk 114 rfl))) Via.refl e425 (own_rwF d_v426 (B423.sca 2 rfl)) (g := (mkF m 21 (lt2 x p1) [(.ref x), (.ref (A 4))])) rfl rfl (hb hby d18_21)
    obtain ⟨v429, d_v429, hf430⟩ := own_nai hf427
    clear hf427
    obtain ⟨T431, X431, e431, st431⟩ := getF X428 hx hZ hown (host := "") (Or.inl (hw _ (tk 116 rfl))) Via.refl e428 (own_rwF d_v429 (B423.sca 3 rfl)) (g := (mkF m 25 (lt2 x p1) [(.ref x), (.int v426), (.ref (A 4))])) rfl rfl (hb hby d18_25)
    obtain ⟨T432, X432, e432, st432⟩ := getF X431 hx hZ hown (host := "") (Or.inl (hw _ (tk 12 rfl))) Via.refl e431 (B423.fld 0 rfl) (g := (mkF m 30 (lt2 x p1) [(.ref x), (.int (v426 + v429)), (.ref (A 4))])) rfl rfl (hb hby d18_30)
    obtain ⟨g433, hf434⟩ := own_gd hf430
    clear hf430
    obtain ⟨cl435, Ar435, hin435⟩ := B423.at 4 (Or.inl (by decide)) g433
    have At435 : Arr Z h423 (A 4) cl435 .int := Ar435
    obtain ⟨T436, h436, X436, e436, W436, st436⟩ := stI X432 hx hZ e432 At435 (j := ((v426 + v429) % (Int32.ofNat nc))) hin435 (g := (mkF m 35 (lt2 x p1) [(.int p1), (.int ((v426 + v429) % (Int32.ofNat nc))), (.ref (A 4))])) rfl rfl (hb hby d18_35)
    obtain ⟨M436, d_M436, hf437⟩ := own_nam hf434
    clear hf434
    have B436 := B423.wr (v := p1) 4 (Or.inl (by decide)) g433 W436 rfl
    rw [← d_M436] at B436
    have O436 : Old Z n0 h436 := O423.wr W436 (B423.old 4 (Or.inl (by decide)))
    have N436 := Fr.snoc X436 N423 (B423.old 4 (Or.inl (by decide)))
    obtain ⟨v438, d_v438, hf439⟩ := own_nai hf437
    clear hf437
    obtain ⟨T440, X440, e440, st440⟩ := getF X436 hx hZ hown (host := "") (Or.inl (hw _ (tk 116 rfl))) Via.refl e436 (own_rwF d_v438 (B436.sca 3 rfl)) (g := (mkF m 38 (lt2 x p1) [(.ref x), (.ref x)])) rfl rfl (hb hby d18_38)
    obtain ⟨T441, h441, X441, e441, W441, st441⟩ := putF X440 hx hZ hown (host := "") (Or.inl (hw _ (tk 116 rfl))) Via.refl e440 (B436.sca 3 rfl) B436.exa (Or.inl (hw _ (tk 117 rfl))) (hw _ (tk 1 rfl)) (ty := .int) (by decide) rfl rfl (g := (mkF m 43 (lt2 x p1) [(.int (v438 + (1 : Int32))), (.ref x)])) rfl rfl (hb hby d18_43)
    obtain ⟨M441, d_M441, hf442⟩ := own_nam hf439
    clear hf439
    have B441 := B436.put hSl 3 rfl W441
    rw [← d_M441] at B441
    have O441 : Old Z n0 h441 := O436.wr W441 B436.oldx
    have N441 := Fr.snoc X441 N436 B436.oldx
    obtain ⟨rfl, rfl⟩ := own_ret hf442
    obtain ⟨fs, hr, hrun, hended, hW, hsame⟩ := X441.leave (v := none) (fun _ => rfl) (BodyLoose.notSynchronized Bd)
    refine hno ⟨_, _, pre419 _ ?_, hrun, hended, _, _, rfl, ?_, ⟨_, rfl⟩, hW, hsame.mono (by decide) (by decide)⟩
    · show Sp p e below T413 (mkF m 6 (lt2 x p1) [(.int v417)]) _
      refine XS.ifNo X413.here hx rfl (hb hby d18_6) rfl ((if0 _ _).trans (teq hc420).2) ?_
      show Sp p e below T413 (mkF m 9 (lt2 x p1) []) _
      refine XS.aloadN X413.here hx rfl (hb hby d18_9) rfl rfl ?_
      show Sp p e below T413 (mkF m 10 (lt2 x p1) [(.ref x)]) _
      refine st421 _ ?_
      show Sp p e below T421 (mkF m 13 (lt2 x p1) [(.ref (A 5))]) _
      refine XS.iloadN X421.here hx rfl (hb hby d18_13) rfl ?_
      refine XS.iconst X421.here hx rfl (hb hby d18_14) ?_
      show Sp p e below T421 (mkF m 15 (lt2 x p1) [(.int (1 : Int32)), (.int p1), (.ref (A 5))]) _
      refine st423 _ ?_
      show Sp p e below T423 (mkF m 16 (lt2 x p1) []) _
      refine XS.aloadN X423.here hx rfl (hb hby d18_16) rfl rfl ?_
      show Sp p e below T423 (mkF m 17 (lt2 x p1) [(.ref x)]) _
      refine st425 _ ?_
      show Sp p e below T425 (mkF m 20 (lt2 x p1) [(.ref (A 4))]) _
      refine XS.aloadN X425.here hx rfl (hb hby d18_20) rfl rfl ?_
      show Sp p e below T425 (mkF m 21 (lt2 x p1) [(.ref x), (.ref (A 4))]) _
      refine st428 _ ?_
      show Sp p e below T428 (mkF m 24 (lt2 x p1) [(.int v426), (.ref (A 4))]) _
      refine XS.aloadN X428.here hx rfl (hb hby d18_24) rfl rfl ?_
      show Sp p e below T428 (mkF m 25 (lt2 x p1) [(.ref x), (.int v426), (.ref (A 4))]) _
      refine st431 _ ?_
      show Sp p e below T431 (mkF m 28 (lt2 x p1) [(.int v429), (.int v426), (.ref (A 4))]) _
      refine XS.iadd X431.here hx rfl (hb hby d18_28) rfl ?_
      refine XS.aloadN X431.here hx rfl (hb hby d18_29) rfl rfl ?_
      show Sp p e below T431 (mkF m 30 (lt2 x p1) [(.ref x), (.int (v426 + v429)), (.ref (A 4))]) _
      refine st432 _ ?_
      show Sp p e below T432 (mkF m 33 (lt2 x p1) [(.int (Int32.ofNat nc)), (.int (v426 + v429)), (.ref (A 4))]) _
      refine iremM X432 hx rfl (hb hby d18_33) rfl B423.ncz ?_
      show Sp p e below T432 (mkF m 34 (lt2 x p1) [(.int ((v426 + v429) % (Int32.ofNat nc))), (.ref (A 4))]) _
      refine XS.iloadN X432.here hx rfl (hb hby d18_34) rfl ?_
      show Sp p e below T432 (mkF m 35 (lt2 x p1) [(.int p1), (.int ((v426 + v429) % (Int32.ofNat nc))), (.ref (A 4))]) _
      refine st436 _ ?_
      show Sp p e below T436 (mkF m 36 (lt2 x p1) []) _
      refine XS.aloadN X436.here hx rfl (hb hby d18_36) rfl rfl ?_
      refine XS.dup X436.here hx rfl (hb hby d18_37) rfl rfl ?_
      show Sp p e below T436 (mkF m 38 (lt2 x p1) [(.ref x), (.ref x)]) _
      refine st440 _ ?_
      show Sp p e below T440 (mkF m 41 (lt2 x p1) [(.int v438), (.ref x)]) _
      refine XS.iconst X440.here hx rfl (hb hby d18_41) ?_
      refine XS.iadd X440.here hx rfl (hb hby d18_42) rfl ?_
      show Sp p e below T440 (mkF m 43 (lt2 x p1) [(.int (v438 + (1 : Int32))), (.ref x)]) _
      refine st441 _ ?_
      show Sp p e below T441 (mkF m 46 (lt2 x p1) []) _
      exact X441.returnOut hx Bd.returns (hb hby d18_46) hr
    · show Q18 Z n0 ex x A K S0 nc _ _ _ T441.heap _
      rw [e441]
      exact ⟨rfl, N441, O441, B441⟩
  · rw [own_eqF hc420] at hf418
    obtain ⟨rfl, rfl⟩ := own_ret hf418
    obtain ⟨fs, hr, hrun, hended, hW, hsame⟩ := X413.leave (v := none) (fun _ => rfl) (BodyLoose.notSynchronized Bd)
    refine hno ⟨_, _, pre419 _ ?_, hrun, hended, _, _, rfl, ?_, ⟨_, rfl⟩, hW, hsame.mono (by decide) (by decide)⟩
    · show Sp p e below T413 (mkF m 6 (lt2 x p1) [(.int v417)]) _
      refine XS.ifYes X413.here hx rfl (pc0 := 6) (pc' := 46) rfl (hb hby d18_6) rfl ((if0 _ _).trans (feq hc420).2) (by decide) (by decide) ?_
      show Sp p e below T413 (mkF m 46 (lt2 x p1) []) _
      exact X413.returnOut hx Bd.returns (hb hby d18_46) hr
    · show Q18 Z n0 ex x A K S0 nc _ _ _ T413.heap _
      rw [e413]
      exact ⟨rfl, N0, O0, B0⟩
theorem pn_16 : plainName "com/example/onetree/onetree/EdgeStates" = true := by first | (simp [plainName, overriddenIn]; done) | decide +kernel
def f16 (nc : Nat) (M : MM) (p1 : Int32) (p2 : Int32) : Option (Int32 × MM) := gd (inr p1 nc) (gd (inr p2 nc) (nai (ld M (14 + ix p1) (ix p2)) fun v351 => cnd (eqB v351 (0 : Int32)) (bnd (f17 nc M p1 p2 (2 : Int32)) fun v393 M393 => gd (inr p1 (lnR nc 1)) (nai (ld M393 1 (ix p1)) fun v399 => nam (sto M393 1 (ix p1) (v399 - (1 : Int32))) fun M402 => gd (inr p2 (lnR nc 1)) (nai (ld M402 1 (ix p2)) fun v408 => nam (sto M402 1 (ix p2) (v408 - (1 : Int32))) fun M411 => bnd (f18 nc M411 p1) fun v443 M443 => bnd (f18 nc M443 p2) fun v445 M445 => some ((1 : Int32), M445)))) (cnd (eqB v351 (2 : Int32)) (some ((1 : Int32), M)) (some ((0 : Int32), M)))))
theorem ef_16 (m : MethodId) (x : Addr) (A : Nat → Addr) (p1 : Int32) (p2 : Int32) : entryFrame m #[(.ref x), (.int p1), (.int p2)] 4 = mkF m 0 #[.val (.ref x), .val (.int p1), .val (.int p2), .unset] [] := by first | (simp [entryFrame, mkF, argsToLocals, Value.category]; done) | rfl
def Q16 (Z : State) (n0 : Nat) (ex : Bool) (x : Addr) (A : Nat → Addr) (K : Nat → ClassId) (S0 : Addr) (nc : Nat) (rv : Int32) (M' : MM) (v : Option Value) (h : Heap) (L : List Loc) : Prop := v = some (.int rv) ∧ Fr n0 L ∧ Old Z n0 h ∧ EB Z n0 ex h x A K S0 nc M'
set_option maxRecDepth 65536 in
set_option maxHeartbeats 40000000 in
theorem rm16 (l : Launch) (Z : State) (a0 : Array Value) (hw : ∀ d ∈ tables_1, d.before a0 Z = true) (ws : List Jvm.Cond) (hSl : SlotsOK Z) (ex : Bool) (x : Addr) (A : Nat → Addr) (K : Nat → ClassId) (S0 : Addr) (nc : Nat) (M : MM) (p1 : Int32) (p2 : Int32) (rv : Int32) (M' : MM) (h0 : Heap) (n0 : Nat) (O0 : Old Z n0 h0) (B0 : EB Z n0 ex h0 x A K S0 nc M) (hf : f16 nc M p1 p2 = some (rv, M')) :
    MetFree l Y20 (head1 (Jvm.Cond.code Y20 prog_7_method_21_code 4 (some .boolean) :: ws) ({ frames := 1, cells := 0, slots := 0, locals := 15 } : Room)) (fun a U => a = #[(.ref x), (.int p1), (.int p2)] ∧ Z.Warmed39 U.vm ∧ U.heap = h0) (fun _ _ _ _ _ => True) (fun _ U o U' => ∃ v L, o = .returned v ∧ Q16 Z n0 ex x A K S0 nc rv M' v U'.heap L ∧ FrameEnd U o U' L ({ frames := 1, cells := 0, slots := 0, locals := 15 } : Room).cells ({ frames := 1, cells := 0, slots := 0, locals := 15 } : Room).slots) := by
  refine MetFree.of_bodySF (plainFor_of_name pn_16) hisR ?_
  intro p e s m args below meth c s₁ Bd hml0 hP hK
  obtain ⟨rfl, hZ, hh⟩ := hP
  have hx := Bd.exec
  have hby := Bd.bytes
  have hml : c.maxLocals = 4 := hml0
  have hown : s.vm.findClass "com/example/onetree/onetree/EdgeStates" = some m.cls := findClass_of_methodNamed Bd.named
  have X0 : Stand p l e ({ frames := 1, cells := 0, slots := 0, locals := 15 } : Room) s m #[(.ref x), (.int p1), (.int p2)] below meth c s₁ [] 0 0 := Stand.of_body Bd
  have e0 : s₁.heap = h0 := by rw [← hh, Bd.state]; rfl
  have N0 := Fr.nil n0
  have pre0 : ∀ t, Steps p.tables e below (s₁.setTop (mkF m 0 #[.val (.ref x), .val (.int p1), .val (.int p2), .unset] [])) t → Steps p.tables e below (s₁.setTop (entryFrame m #[(.ref x), (.int p1), (.int p2)] 4)) t := fun t k => castTop (ef_16 m x A p1 p2) k
  generalize hE0 : s₁.setTop (entryFrame m #[(.ref x), (.int p1), (.int p2)] 4) = E0 at pre0 ⊢
  apply Classical.byContradiction
  intro hno
  unfold f16 at hf
  obtain ⟨T344, X344, e344, st344⟩ := getF X0 hx hZ hown (host := "") (Or.inl (hw _ (tk 21 rfl))) Via.refl e0 (B0.fld 1 rfl) (g := (mkF m 1 (lt5 x p1 p2) [(.ref x)])) rfl rfl (hb hby d16_1)
  obtain ⟨g345, hf346⟩ := own_gd hf
  clear hf
  obtain ⟨cl347, Ar347, hin347, hat347⟩ := B0.getS g345
  obtain ⟨g348, hf349⟩ := own_gd hf346
  clear hf346
  obtain ⟨v351, d_v351, hf352⟩ := own_nai hf349
  clear hf349
  obtain ⟨cl350, Ar350, hin350, hat350⟩ := B0.get (14 + ix p1) (B0.isS g345) (own_gS g348) d_v351
  have At350 := own_tyA Ar350
  have pre353 : Cm p e below E0 (T344.setTop (mkF m 10 (lt6 x p1 p2 v351) [(.int v351)])) := fun t kt => by
    refine pre0 t ?_
    show Sp p e below s₁ (mkF m 0 (lt5 x p1 p2) []) _
    refine XS.aloadN X0.here hx rfl (hb hby d16_0) rfl rfl ?_
    show Sp p e below s₁ (mkF m 1 (lt5 x p1 p2) [(.ref x)]) _
    refine st344 _ ?_
    show Sp p e below T344 (mkF m 4 (lt5 x p1 p2) [(.ref S0)]) _
    refine XS.iloadN X344.here hx rfl (hb hby d16_4) rfl ?_
    show Sp p e below T344 (mkF m 5 (lt5 x p1 p2) [(.int p1), (.ref S0)]) _
    refine X344.aaload hx (j := p1) (v := .ref (A (14 + ix p1))) (by rw [e344]; exact Ar347.1) (State.isArrayOf_alike hZ.alike Ar347.2.1) rfl Ar347.2.2 hin347 hat347 (g := (mkF m 5 (lt5 x p1 p2) [(.int p1), (.ref S0)])) rfl rfl (hb hby d16_5) _ ?_
    show Sp p e below T344 (mkF m 6 (lt5 x p1 p2) [(.ref (A (14 + ix p1)))]) _
    refine XS.iloadN X344.here hx rfl (hb hby d16_6) rfl ?_
    show Sp p e below T344 (mkF m 7 (lt5 x p1 p2) [(.int p2), (.ref (A (14 + ix p1)))]) _
    refine X344.baloadBytes hx (j := p2) (v := (.int v351)) (by rw [e344]; exact Ar350.1) (State.isArrayOf_alike hZ.alike At350.2.1) At350.2.2 hin350 hat350 (g := (mkF m 7 (lt5 x p1 p2) [(.int p2), (.ref (A (14 + ix p1)))])) rfl rfl (hb hby d16_7) _ ?_
    show Sp p e below T344 (mkF m 8 (lt5 x p1 p2) [(.int v351)]) _
    refine XS.istoreN X344.here hx rfl (hb hby d16_8) rfl (l' := (lt6 x p1 p2 v351)) rfl ?_
    refine XS.iloadN X344.here hx rfl (hb hby d16_9) rfl ?_
    show Sp p e below T344 (mkF m 10 (lt6 x p1 p2 v351) [(.int v351)]) _
    exact kt
  by_cases hc354 : v351 = (0 : Int32)
  · rw [own_eqT hc354] at hf352
    obtain ⟨v393, M393, hc393, hf394⟩ := own_bnd hf352
    clear hf352
    obtain ⟨cq393, q393, q393'⟩ := B0.exa.cell
    obtain ⟨_, _, ⟨T393, L393, k393, n393⟩, -, X393, ⟨Lc393, hQ393, l393, y393, z393⟩, st393⟩ := X344.privateBack hx (y := Y18) hown (mvT hZ (hw _ (tk 106 rfl))) (mvT hZ (hw _ (tk 107 rfl))) (own_selP rfl (mvT hZ (hw _ (tk 1 rfl))) (Cond.privateMethod_at (mvP hZ (hw _ (tk 108 rfl)) (args := #[]))) (mvT hZ (hw _ (tk 107 rfl))) (by decide)) (Cond.privateMethod_at (mvP hZ (hw _ (tk 108 rfl)) (args := #[]))) (mvT hZ (hw _ (tk 109 rfl))) (by decide) (backOf (W := 0) (rm17 l Z a0 hw [] hSl ex x A K S0 nc M p1 p2 (2 : Int32) v393 M393 h0 n0 O0 B0 hc393) hZ (hw _ (tk 109 rfl)) (hw _ (tk 2 rfl)) (by decide) (by decide)) (g := (mkF m 28 (lt6 x p1 p2 v351) [(.int (2 : Int32)), (.int p2), (.int p1), (.ref x)])) rfl (by rw [hml]; rfl) (Steps.refl _) (a := x) (by rw [e344]; exact q393) q393' (argsL := [(.int p1), (.int p2), (.int (2 : Int32))]) (rest := []) (lenOf pd_4 rfl) rfl (by show 2 * 0 + _ ≤ _; exact Nat.le_of_eq rfl) (hb hby d16_28) (fun _ _ => ⟨rfl, e344, (by decide : 0 + 0 ≤ _), (by decide : 0 + 0 ≤ _)⟩)
    dsimp only [Pt.U, Pt.locs, Pt.cells, Pt.slots] at X393 l393 y393 z393 st393 hQ393
    rw [l393, y393, z393] at X393
    obtain ⟨rv393, N393q, O393, B393⟩ := hQ393
    subst rv393
    have N393 := Fr.app N0 N393q
    obtain ⟨T395, X395, e395, st395⟩ := getF X393 hx hZ hown (host := "") (Or.inl (hw _ (tk 26 rfl))) Via.refl rfl (B393.fld 3 rfl) (g := (mkF m 32 (lt6 x p1 p2 v351) [(.ref x)])) rfl rfl (hb hby d16_32)
    obtain ⟨g396, hf397⟩ := own_gd hf394
    clear hf394
    obtain ⟨v399, d_v399, hf400⟩ := own_nai hf397
    clear hf397
    obtain ⟨cl398, Ar398, hin398, hat398⟩ := B393.get 1 (Or.inl (by decide)) g396 d_v399
    have At398 : Arr Z T393.heap (A 1) cl398 .int := Ar398
    obtain ⟨cl401, Ar401, hin401⟩ := B393.at 1 (Or.inl (by decide)) g396
    have At401 : Arr Z T393.heap (A 1) cl401 .int := Ar401
    obtain ⟨T402, h402, X402, e402, W402, st402⟩ := stI X395 hx hZ e395 At401 (j := p1) hin401 (g := (mkF m 40 (lt6 x p1 p2 v351) [(.int (v399 - (1 : Int32))), (.int p1), (.ref (A 1))])) rfl rfl (hb hby d16_40)
    obtain ⟨M402, d_M402, hf403⟩ := own_nam hf400
    clear hf400
    have B402 := B393.wr (v := (v399 - (1 : Int32))) 1 (Or.inl (by decide)) g396 W402 rfl
    rw [← d_M402] at B402
    have O402 : Old Z n0 h402 := O393.wr W402 (B393.old 1 (Or.inl (by decide)))
    have N402 := Fr.snoc X402 N393 (B393.old 1 (Or.inl (by decide)))
    obtain ⟨T404, X404, e404, st404⟩ := getF X402 hx hZ hown (host := "") (Or.inl (hw _ (tk 26 rfl))) Via.refl e402 (B402.fld 3 rfl) (g := (mkF m 42 (lt6 x p1 p2 v351) [(.ref x)])) rfl rfl (hb hby d16_42)
    obtain ⟨g405, hf406⟩ := own_gd hf403
    clear hf403
    obtain ⟨v408, d_v408, hf409⟩ := own_nai hf406
    clear hf406
    obtain ⟨cl407, Ar407, hin407, hat407⟩ := B402.get 1 (Or.inl (by decide)) g405 d_v408
    have At407 : Arr Z h402 (A 1) cl407 .int := Ar407
    obtain ⟨cl410, Ar410, hin410⟩ := B402.at 1 (Or.inl (by decide)) g405
    have At410 : Arr Z h402 (A 1) cl410 .int := Ar410
    obtain ⟨T411, h411, X411, e411, W411, st411⟩ := stI X404 hx hZ e404 At410 (j := p2) hin410 (g := (mkF m 50 (lt6 x p1 p2 v351) [(.int (v408 - (1 : Int32))), (.int p2), (.ref (A 1))])) rfl rfl (hb hby d16_50)
    obtain ⟨M411, d_M411, hf412⟩ := own_nam hf409
    clear hf409
    have B411 := B402.wr (v := (v408 - (1 : Int32))) 1 (Or.inl (by decide)) g405 W411 rfl
    rw [← d_M411] at B411
    have O411 : Old Z n0 h411 := O402.wr W411 (B402.old 1 (Or.inl (by decide)))
    have N411 := Fr.snoc X411 N402 (B402.old 1 (Or.inl (by decide)))
    obtain ⟨v443, M443, hc443, hf444⟩ := own_bnd hf412
    clear hf412
    obtain ⟨cq443, q443, q443'⟩ := B411.exa.cell
    obtain ⟨_, _, ⟨T443, L443, k443, n443⟩, -, X443, ⟨Lc443, hQ443, l443, y443, z443⟩, st443⟩ := X411.privateBack hx (y := Y19) hown (mvT hZ (hw _ (tk 110 rfl))) (mvT hZ (hw _ (tk 111 rfl))) (own_selP rfl (mvT hZ (hw _ (tk 1 rfl))) (Cond.privateMethod_at (mvP hZ (hw _ (tk 112 rfl)) (args := #[]))) (mvT hZ (hw _ (tk 111 rfl))) (by decide)) (Cond.privateMethod_at (mvP hZ (hw _ (tk 112 rfl)) (args := #[]))) (mvT hZ (hw _ (tk 113 rfl))) (by decide) (backOf (W := 0) (rm18 l Z a0 hw [] hSl ex x A K S0 nc M411 p1 v443 M443 h411 n0 O411 B411 hc443) hZ (hw _ (tk 113 rfl)) (hw _ (tk 2 rfl)) (by decide) (by decide)) (g := (mkF m 53 (lt6 x p1 p2 v351) [(.int p1), (.ref x)])) rfl (by rw [hml]; rfl) (Steps.refl _) (a := x) (by rw [e411]; exact q443) q443' (argsL := [(.int p1)]) (rest := []) (lenOf pd_3 rfl) rfl (by show 2 * 0 + _ ≤ _; exact Nat.le_of_eq rfl) (hb hby d16_53) (fun _ _ => ⟨rfl, e411, (by decide : 0 + 0 ≤ _), (by decide : 0 + 0 ≤ _)⟩)
    dsimp only [Pt.U, Pt.locs, Pt.cells, Pt.slots] at X443 l443 y443 z443 st443 hQ443
    rw [l443, y443, z443] at X443
    obtain ⟨rv443, N443q, O443, B443⟩ := hQ443
    subst rv443
    have N443 := Fr.app N411 N443q
    obtain ⟨v445, M445, hc445, hf446⟩ := own_bnd hf444
    clear hf444
    obtain ⟨cq445, q445, q445'⟩ := B443.exa.cell
    obtain ⟨_, _, ⟨T445, L445, k445, n445⟩, -, X445, ⟨Lc445, hQ445, l445, y445, z445⟩, st445⟩ := X443.privateBack hx (y := Y19) hown (mvT hZ (hw _ (tk 110 rfl))) (mvT hZ (hw _ (tk 111 rfl))) (own_selP rfl (mvT hZ (hw _ (tk 1 rfl))) (Cond.privateMethod_at (mvP hZ (hw _ (tk 112 rfl)) (args := #[]))) (mvT hZ (hw _ (tk 111 rfl))) (by decide)) (Cond.privateMethod_at (mvP hZ (hw _ (tk 112 rfl)) (args := #[]))) (mvT hZ (hw _ (tk 113 rfl))) (by decide) (backOf (W := 0) (rm18 l Z a0 hw [] hSl ex x A K S0 nc M443 p2 v445 M445 T443.heap n0 O443 B443 hc445) hZ (hw _ (tk 113 rfl)) (hw _ (tk 2 rfl)) (by decide) (by decide)) (g := (mkF m 58 (lt6 x p1 p2 v351) [(.int p2), (.ref x)])) rfl (by rw [hml]; rfl) (Steps.refl _) (a := x) q445 q445' (argsL := [(.int p2)]) (rest := []) (lenOf pd_3 rfl) rfl (by show 2 * 0 + _ ≤ _; exact Nat.le_of_eq rfl) (hb hby d16_58) (fun _ _ => ⟨rfl, rfl, (by decide : 0 + 0 ≤ _), (by decide : 0 + 0 ≤ _)⟩)
    dsimp only [Pt.U, Pt.locs, Pt.cells, Pt.slots] at X445 l445 y445 z445 st445 hQ445
    rw [l445, y445, z445] at X445
    obtain ⟨rv445, N445q, O445, B445⟩ := hQ445
    subst rv445
    have N445 := Fr.app N443 N445q
    obtain ⟨rfl, rfl⟩ := own_ret hf446
    obtain ⟨fs, hr, hrun, hended, hW, hsame⟩ := X445.leave (v := some (.int (1 : Int32))) (fun h => by rw [Bd.returns] at h; cases h) (BodyLoose.notSynchronized Bd)
    refine hno ⟨_, _, pre353 _ ?_, hrun, hended, _, _, rfl, ?_, ⟨_, rfl⟩, hW, hsame.mono (by decide) (by decide)⟩
    · show Sp p e below T344 (mkF m 10 (lt6 x p1 p2 v351) [(.int v351)]) _
      refine XS.ifYes X344.here hx rfl (pc0 := 10) (pc' := 24) rfl (hb hby d16_10) rfl ((if0 _ _).trans (teq hc354).1) (by decide) (by decide) ?_
      show Sp p e below T344 (mkF m 24 (lt6 x p1 p2 v351) []) _
      refine XS.aloadN X344.here hx rfl (hb hby d16_24) rfl rfl ?_
      refine XS.iloadN X344.here hx rfl (hb hby d16_25) rfl ?_
      show Sp p e below T344 (mkF m 26 (lt6 x p1 p2 v351) [(.int p1), (.ref x)]) _
      refine XS.iloadN X344.here hx rfl (hb hby d16_26) rfl ?_
      refine XS.iconst X344.here hx rfl (hb hby d16_27) ?_
      show Sp p e below T344 (mkF m 28 (lt6 x p1 p2 v351) [(.int (2 : Int32)), (.int p2), (.int p1), (.ref x)]) _
      refine st393.trans ?_
      show Sp p e below T393 (mkF m 31 (lt6 x p1 p2 v351) []) _
      refine XS.aloadN X393.here hx rfl (hb hby d16_31) rfl rfl ?_
      show Sp p e below T393 (mkF m 32 (lt6 x p1 p2 v351) [(.ref x)]) _
      refine st395 _ ?_
      show Sp p e below T395 (mkF m 35 (lt6 x p1 p2 v351) [(.ref (A 1))]) _
      refine XS.iloadN X395.here hx rfl (hb hby d16_35) rfl ?_
      show Sp p e below T395 (mkF m 36 (lt6 x p1 p2 v351) [(.int p1), (.ref (A 1))]) _
      refine XT.dup2 X395.here hx rfl (hb hby d16_36) rfl rfl rfl ?_
      show Sp p e below T395 (mkF m 37 (lt6 x p1 p2 v351) [(.int p1), (.ref (A 1)), (.int p1), (.ref (A 1))]) _
      refine X395.iaload hx (j := p1) (v := (.int v399)) (by rw [e395]; exact Ar398.1) (State.isArrayOf_alike hZ.alike At398.2.1) At398.2.2 hin398 hat398 (g := (mkF m 37 (lt6 x p1 p2 v351) [(.int p1), (.ref (A 1)), (.int p1), (.ref (A 1))])) rfl rfl (hb hby d16_37) _ ?_
      show Sp p e below T395 (mkF m 38 (lt6 x p1 p2 v351) [(.int v399), (.int p1), (.ref (A 1))]) _
      refine XS.iconst X395.here hx rfl (hb hby d16_38) ?_
      refine XS.isub X395.here hx rfl (hb hby d16_39) rfl ?_
      show Sp p e below T395 (mkF m 40 (lt6 x p1 p2 v351) [(.int (v399 - (1 : Int32))), (.int p1), (.ref (A 1))]) _
      refine st402 _ ?_
      show Sp p e below T402 (mkF m 41 (lt6 x p1 p2 v351) []) _
      refine XS.aloadN X402.here hx rfl (hb hby d16_41) rfl rfl ?_
      show Sp p e below T402 (mkF m 42 (lt6 x p1 p2 v351) [(.ref x)]) _
      refine st404 _ ?_
      show Sp p e below T404 (mkF m 45 (lt6 x p1 p2 v351) [(.ref (A 1))]) _
      refine XS.iloadN X404.here hx rfl (hb hby d16_45) rfl ?_
      show Sp p e below T404 (mkF m 46 (lt6 x p1 p2 v351) [(.int p2), (.ref (A 1))]) _
      refine XT.dup2 X404.here hx rfl (hb hby d16_46) rfl rfl rfl ?_
      show Sp p e below T404 (mkF m 47 (lt6 x p1 p2 v351) [(.int p2), (.ref (A 1)), (.int p2), (.ref (A 1))]) _
      refine X404.iaload hx (j := p2) (v := (.int v408)) (by rw [e404]; exact Ar407.1) (State.isArrayOf_alike hZ.alike At407.2.1) At407.2.2 hin407 hat407 (g := (mkF m 47 (lt6 x p1 p2 v351) [(.int p2), (.ref (A 1)), (.int p2), (.ref (A 1))])) rfl rfl (hb hby d16_47) _ ?_
      show Sp p e below T404 (mkF m 48 (lt6 x p1 p2 v351) [(.int v408), (.int p2), (.ref (A 1))]) _
      refine XS.iconst X404.here hx rfl (hb hby d16_48) ?_
      refine XS.isub X404.here hx rfl (hb hby d16_49) rfl ?_
      show Sp p e below T404 (mkF m 50 (lt6 x p1 p2 v351) [(.int (v408 - (1 : Int32))), (.int p2), (.ref (A 1))]) _
      refine st411 _ ?_
      show Sp p e below T411 (mkF m 51 (lt6 x p1 p2 v351) []) _
      refine XS.aloadN X411.here hx rfl (hb hby d16_51) rfl rfl ?_
      refine XS.iloadN X411.here hx rfl (hb hby d16_52) rfl ?_
      show Sp p e below T411 (mkF m 53 (lt6 x p1 p2 v351) [(.int p1), (.ref x)]) _
      refine st443.trans ?_
      show Sp p e below T443 (mkF m 56 (lt6 x p1 p2 v351) []) _
      refine XS.aloadN X443.here hx rfl (hb hby d16_56) rfl rfl ?_
      refine XS.iloadN X443.here hx rfl (hb hby d16_57) rfl ?_
      show Sp p e below T443 (mkF m 58 (lt6 x p1 p2 v351) [(.int p2), (.ref x)]) _
      refine st445.trans ?_
      show Sp p e below T445 (mkF m 61 (lt6 x p1 p2 v351) []) _
      refine XS.iconst X445.here hx rfl (hb hby d16_61) ?_
      show Sp p e below T445 (mkF m 62 (lt6 x p1 p2 v351) [(.int (1 : Int32))]) _
      exact retN X445 hx (t := .boolean) Bd.returns (by simp) (hb hby d16_62) hr
    · show Q16 Z n0 ex x A K S0 nc _ _ _ T445.heap _
      exact ⟨rfl, N445, O445, B445⟩
  · rw [own_eqF hc354] at hf352
    have pre447 : Cm p e below E0 (T344.setTop (mkF m 15 (lt6 x p1 p2 v351) [(.int (2 : Int32)), (.int v351)])) := fun t kt => by
      refine pre353 t ?_
      show Sp p e below T344 (mkF m 10 (lt6 x p1 p2 v351) [(.int v351)]) _
      refine XS.ifNo X344.here hx rfl (hb hby d16_10) rfl ((if0 _ _).trans (feq hc354).1) ?_
      show Sp p e below T344 (mkF m 13 (lt6 x p1 p2 v351) []) _
      refine XS.iloadN X344.here hx rfl (hb hby d16_13) rfl ?_
      refine XS.iconst X344.here hx rfl (hb hby d16_14) ?_
      show Sp p e below T344 (mkF m 15 (lt6 x p1 p2 v351) [(.int (2 : Int32)), (.int v351)]) _
      exact kt
    by_cases hc448 : v351 = (2 : Int32)
    · rw [own_eqT hc448] at hf352
      obtain ⟨rfl, rfl⟩ := own_ret hf352
      obtain ⟨fs, hr, hrun, hended, hW, hsame⟩ := X344.leave (v := some (.int (1 : Int32))) (fun h => by rw [Bd.returns] at h; cases h) (BodyLoose.notSynchronized Bd)
      refine hno ⟨_, _, pre447 _ ?_, hrun, hended, _, _, rfl, ?_, ⟨_, rfl⟩, hW, hsame.mono (by decide) (by decide)⟩
      · show Sp p e below T344 (mkF m 15 (lt6 x p1 p2 v351) [(.int (2 : Int32)), (.int v351)]) _
        refine XS.icmpNo X344.here hx rfl (hb hby d16_15) rfl (teq hc448).2 ?_
        show Sp p e below T344 (mkF m 18 (lt6 x p1 p2 v351) []) _
        refine XS.iconst X344.here hx rfl (hb hby d16_18) ?_
        show Sp p e below T344 (mkF m 19 (lt6 x p1 p2 v351) [(.int (1 : Int32))]) _
        refine XS.goto X344.here hx rfl (pc0 := 19) (pc' := 23) rfl (hb hby d16_19) (by decide) (by decide) ?_
        show Sp p e below T344 (mkF m 23 (lt6 x p1 p2 v351) [(.int (1 : Int32))]) _
        exact retN X344 hx (t := .boolean) Bd.returns (by simp) (hb hby d16_23) hr
      · show Q16 Z n0 ex x A K S0 nc _ _ _ T344.heap _
        rw [e344]
        exact ⟨rfl, N0, O0, B0⟩
    · rw [own_eqF hc448] at hf352
      obtain ⟨rfl, rfl⟩ := own_ret hf352
      obtain ⟨fs, hr, hrun, hended, hW, hsame⟩ := X344.leave (v := some (.int (0 : Int32))) (fun h => by rw [Bd.returns] at h; cases h) (BodyLoose.notSynchronized Bd)
      refine hno ⟨_, _, pre447 _ ?_, hrun, hended, _, _, rfl, ?_, ⟨_, rfl⟩, hW, hsame.mono (by decide) (by decide)⟩
      · show Sp p e below T344 (mkF m 15 (lt6 x p1 p2 v351) [(.int (2 : Int32)), (.int v351)]) _
        refine XS.icmpYes X344.here hx rfl (pc0 := 15) (pc' := 22) rfl (hb hby d16_15) rfl (feq hc448).2 (by decide) (by decide) ?_
        show Sp p e below T344 (mkF m 22 (lt6 x p1 p2 v351) []) _
        refine XS.iconst X344.here hx rfl (hb hby d16_22) ?_
        show Sp p e below T344 (mkF m 23 (lt6 x p1 p2 v351) [(.int (0 : Int32))]) _
        exact retN X344 hx (t := .boolean) Bd.returns (by simp) (hb hby d16_23) hr
      · show Q16 Z n0 ex x A K S0 nc _ _ _ T344.heap _
        rw [e344]
        exact ⟨rfl, N0, O0, B0⟩
theorem pn_22 : plainName "com/example/onetree/onetree/EdgeStates" = true := by first | (simp [plainName, overriddenIn]; done) | decide +kernel
def f22 (nc : Nat) (M : MM) (p1 : Int32) (p2 : Int32) (p3 : Int32) : Option (Int32 × MM) := nai (ld M 9 0) fun v605 => nam (sto M 9 0 (v605 + (1 : Int32))) fun M608 => gd (inr p1 (lnR nc 2)) (nai (ld M608 2 (ix p1)) fun v614 => gd (inr v605 (lnR nc 6)) (nam (sto M608 6 (ix v605) v614) fun M619 => nai (ld M619 9 0) fun v622 => nam (sto M619 9 0 (v622 + (1 : Int32))) fun M625 => gd (inr p1 (lnR nc 3)) (nai (ld M625 3 (ix p1)) fun v631 => gd (inr v622 (lnR nc 6)) (nam (sto M625 6 (ix v622) v631) fun M636 => nai (ld M636 9 0) fun v639 => nam (sto M636 9 0 (v639 + (1 : Int32))) fun M642 => gd (inr v639 (lnR nc 6)) (nam (sto M642 6 (ix v639) (p1 ^^^ (-1 : Int32))) fun M647 => nam (sto M647 2 (ix p1) p2) fun M651 => nam (sto M651 3 (ix p1) p3) fun M655 => some (0, M655))))))
theorem ef_22 (m : MethodId) (x : Addr) (A : Nat → Addr) (p1 : Int32) (p2 : Int32) (p3 : Int32) : entryFrame m #[(.ref x), (.int p1), (.int p2), (.int p3)] 4 = mkF m 0 #[.val (.ref x), .val (.int p1), .val (.int p2), .val (.int p3)] [] := by first | (simp [entryFrame, mkF, argsToLocals, Value.category]; done) | rfl
def Q22 (Z : State) (n0 : Nat) (ex : Bool) (x : Addr) (A : Nat → Addr) (K : Nat → ClassId) (S0 : Addr) (nc : Nat) (rv : Int32) (M' : MM) (v : Option Value) (h : Heap) (L : List Loc) : Prop := v = none ∧ Fr n0 L ∧ Old Z n0 h ∧ EB Z n0 ex h x A K S0 nc M'
set_option maxRecDepth 65536 in
set_option maxHeartbeats 40000000 in
theorem rm22 (l : Launch) (Z : State) (a0 : Array Value) (hw : ∀ d ∈ tables_1, d.before a0 Z = true) (ws : List Jvm.Cond) (hSl : SlotsOK Z) (ex : Bool) (x : Addr) (A : Nat → Addr) (K : Nat → ClassId) (S0 : Addr) (nc : Nat) (M : MM) (p1 : Int32) (p2 : Int32) (p3 : Int32) (rv : Int32) (M' : MM) (h0 : Heap) (n0 : Nat) (O0 : Old Z n0 h0) (B0 : EB Z n0 ex h0 x A K S0 nc M) (hf : f22 nc M p1 p2 p3 = some (rv, M')) :
    MetFree l Y31 (head1 (Jvm.Cond.code Y31 prog_7_method_26_code 4 none :: ws) ({ frames := 0, cells := 0, slots := 0, locals := 0 } : Room)) (fun a U => a = #[(.ref x), (.int p1), (.int p2), (.int p3)] ∧ Z.Warmed39 U.vm ∧ U.heap = h0) (fun _ _ _ _ _ => True) (fun _ U o U' => ∃ v L, o = .returned v ∧ Q22 Z n0 ex x A K S0 nc rv M' v U'.heap L ∧ FrameEnd U o U' L ({ frames := 0, cells := 0, slots := 0, locals := 0 } : Room).cells ({ frames := 0, cells := 0, slots := 0, locals := 0 } : Room).slots) := by
  refine MetFree.of_bodySF (plainFor_of_name pn_22) hisR ?_
  intro p e s m args below meth c s₁ Bd hml0 hP hK
  obtain ⟨rfl, hZ, hh⟩ := hP
  have hx := Bd.exec
  have hby := Bd.bytes
  have hml : c.maxLocals = 4 := hml0
  have hown : s.vm.findClass "com/example/onetree/onetree/EdgeStates" = some m.cls := findClass_of_methodNamed Bd.named
  have X0 : Stand p l e ({ frames := 0, cells := 0, slots := 0, locals := 0 } : Room) s m #[(.ref x), (.int p1), (.int p2), (.int p3)] below meth c s₁ [] 0 0 := Stand.of_body Bd
  have e0 : s₁.heap = h0 := by rw [← hh, Bd.state]; rfl
  have N0 := Fr.nil n0
  have pre0 : ∀ t, Steps p.tables e below (s₁.setTop (mkF m 0 #[.val (.ref x), .val (.int p1), .val (.int p2), .val (.int p3)] [])) t → Steps p.tables e below (s₁.setTop (entryFrame m #[(.ref x), (.int p1), (.int p2), (.int p3)] 4)) t := fun t k => castTop (ef_22 m x A p1 p2 p3) k
  generalize hE0 : s₁.setTop (entryFrame m #[(.ref x), (.int p1), (.int p2), (.int p3)] 4) = E0 at pre0 ⊢
  apply Classical.byContradiction
  intro hno
  unfold f22 at hf
  obtain ⟨T604, X604, e604, st604⟩ := getF X0 hx hZ hown (host := "") (Or.inl (hw _ (tk 37 rfl))) Via.refl e0 (B0.fld 8 rfl) (g := (mkF m 1 (lt6 x p1 p2 p3) [(.ref x)])) rfl rfl (hb hby d22_1)
  obtain ⟨v605, d_v605, hf606⟩ := own_nai hf
  clear hf
  obtain ⟨T607, X607, e607, st607⟩ := getF X604 hx hZ hown (host := "") (Or.inl (hw _ (tk 62 rfl))) Via.refl e604 (own_rwF d_v605 (B0.sca 0 rfl)) (g := (mkF m 6 (lt6 x p1 p2 p3) [(.ref x), (.ref x), (.ref (A 6))])) rfl rfl (hb hby d22_6)
  obtain ⟨T608, h608, X608, e608, W608, st608⟩ := putF X607 hx hZ hown (host := "") (Or.inl (hw _ (tk 62 rfl))) Via.refl e607 (B0.sca 0 rfl) B0.exa (Or.inl (hw _ (tk 63 rfl))) (hw _ (tk 1 rfl)) (ty := .int) (by decide) rfl rfl (g := (mkF m 12 (lt6 x p1 p2 p3) [(.int (v605 + (1 : Int32))), (.ref x), (.int v605), (.ref (A 6))])) rfl rfl (hb hby d22_12)
  obtain ⟨M608, d_M608, hf609⟩ := own_nam hf606
  clear hf606
  have B608 := B0.put hSl 0 rfl W608
  rw [← d_M608] at B608
  have O608 : Old Z n0 h608 := O0.wr W608 B0.oldx
  have N608 := Fr.snoc X608 N0 B0.oldx
  obtain ⟨T610, X610, e610, st610⟩ := getF X608 hx hZ hown (host := "") (Or.inl (hw _ (tk 39 rfl))) Via.refl e608 (B608.fld 4 rfl) (g := (mkF m 16 (lt6 x p1 p2 p3) [(.ref x), (.int v605), (.ref (A 6))])) rfl rfl (hb hby d22_16)
  obtain ⟨g611, hf612⟩ := own_gd hf609
  clear hf609
  obtain ⟨v614, d_v614, hf615⟩ := own_nai hf612
  clear hf612
  obtain ⟨cl613, Ar613, hin613, hat613⟩ := B608.get 2 (Or.inl (by decide)) g611 d_v614
  have At613 : Arr Z h608 (A 2) cl613 .int := Ar613
  obtain ⟨g616, hf617⟩ := own_gd hf615
  clear hf615
  obtain ⟨cl618, Ar618, hin618⟩ := B608.at 6 (Or.inl (by decide)) g616
  have At618 : Arr Z h608 (A 6) cl618 .int := Ar618
  obtain ⟨T619, h619, X619, e619, W619, st619⟩ := stI X610 hx hZ e610 At618 (j := v605) hin618 (g := (mkF m 21 (lt6 x p1 p2 p3) [(.int v614), (.int v605), (.ref (A 6))])) rfl rfl (hb hby d22_21)
  obtain ⟨M619, d_M619, hf620⟩ := own_nam hf617
  clear hf617
  have B619 := B608.wr (v := v614) 6 (Or.inl (by decide)) g616 W619 rfl
  rw [← d_M619] at B619
  have O619 : Old Z n0 h619 := O608.wr W619 (B608.old 6 (Or.inl (by decide)))
  have N619 := Fr.snoc X619 N608 (B608.old 6 (Or.inl (by decide)))
  obtain ⟨T621, X621, e621, st621⟩ := getF X619 hx hZ hown (host := "") (Or.inl (hw _ (tk 37 rfl))) Via.refl e619 (B619.fld 8 rfl) (g := (mkF m 23 (lt6 x p1 p2 p3) [(.ref x)])) rfl rfl (hb hby d22_23)
  obtain ⟨v622, d_v622, hf623⟩ := own_nai hf620
  clear hf620
  obtain ⟨T624, X624, e624, st624⟩ := getF X621 hx hZ hown (host := "") (Or.inl (hw _ (tk 62 rfl))) Via.refl e621 (own_rwF d_v622 (B619.sca 0 rfl)) (g := (mkF m 28 (lt6 x p1 p2 p3) [(.ref x), (.ref x), (.ref (A 6))])) rfl rfl (hb hby d22_28)
  obtain ⟨T625, h625, X625, e625, W625, st625⟩ := putF X624 hx hZ hown (host := "") (Or.inl (hw _ (tk 62 rfl))) Via.refl e624 (B619.sca 0 rfl) B619.exa (Or.inl (hw _ (tk 63 rfl))) (hw _ (tk 1 rfl)) (ty := .int) (by decide) rfl rfl (g := (mkF m 34 (lt6 x p1 p2 p3) [(.int (v622 + (1 : Int32))), (.ref x), (.int v622), (.ref (A 6))])) rfl rfl (hb hby d22_34)
  obtain ⟨M625, d_M625, hf626⟩ := own_nam hf623
  clear hf623
  have B625 := B619.put hSl 0 rfl W625
  rw [← d_M625] at B625
  have O625 : Old Z n0 h625 := O619.wr W625 B619.oldx
  have N625 := Fr.snoc X625 N619 B619.oldx
  obtain ⟨T627, X627, e627, st627⟩ := getF X625 hx hZ hown (host := "") (Or.inl (hw _ (tk 41 rfl))) Via.refl e625 (B625.fld 5 rfl) (g := (mkF m 38 (lt6 x p1 p2 p3) [(.ref x), (.int v622), (.ref (A 6))])) rfl rfl (hb hby d22_38)
  obtain ⟨g628, hf629⟩ := own_gd hf626
  clear hf626
  obtain ⟨v631, d_v631, hf632⟩ := own_nai hf629
  clear hf629
  obtain ⟨cl630, Ar630, hin630, hat630⟩ := B625.get 3 (Or.inl (by decide)) g628 d_v631
  have At630 : Arr Z h625 (A 3) cl630 .int := Ar630
  obtain ⟨g633, hf634⟩ := own_gd hf632
  clear hf632
  obtain ⟨cl635, Ar635, hin635⟩ := B625.at 6 (Or.inl (by decide)) g633
  have At635 : Arr Z h625 (A 6) cl635 .int := Ar635
  obtain ⟨T636, h636, X636, e636, W636, st636⟩ := stI X627 hx hZ e627 At635 (j := v622) hin635 (g := (mkF m 43 (lt6 x p1 p2 p3) [(.int v631), (.int v622), (.ref (A 6))])) rfl rfl (hb hby d22_43)
  obtain ⟨M636, d_M636, hf637⟩ := own_nam hf634
  clear hf634
  have B636 := B625.wr (v := v631) 6 (Or.inl (by decide)) g633 W636 rfl
  rw [← d_M636] at B636
  have O636 : Old Z n0 h636 := O625.wr W636 (B625.old 6 (Or.inl (by decide)))
  have N636 := Fr.snoc X636 N625 (B625.old 6 (Or.inl (by decide)))
  obtain ⟨T638, X638, e638, st638⟩ := getF X636 hx hZ hown (host := "") (Or.inl (hw _ (tk 37 rfl))) Via.refl e636 (B636.fld 8 rfl) (g := (mkF m 45 (lt6 x p1 p2 p3) [(.ref x)])) rfl rfl (hb hby d22_45)
  obtain ⟨v639, d_v639, hf640⟩ := own_nai hf637
  clear hf637
  obtain ⟨T641, X641, e641, st641⟩ := getF X638 hx hZ hown (host := "") (Or.inl (hw _ (tk 62 rfl))) Via.refl e638 (own_rwF d_v639 (B636.sca 0 rfl)) (g := (mkF m 50 (lt6 x p1 p2 p3) [(.ref x), (.ref x), (.ref (A 6))])) rfl rfl (hb hby d22_50)
  obtain ⟨T642, h642, X642, e642, W642, st642⟩ := putF X641 hx hZ hown (host := "") (Or.inl (hw _ (tk 62 rfl))) Via.refl e641 (B636.sca 0 rfl) B636.exa (Or.inl (hw _ (tk 63 rfl))) (hw _ (tk 1 rfl)) (ty := .int) (by decide) rfl rfl (g := (mkF m 56 (lt6 x p1 p2 p3) [(.int (v639 + (1 : Int32))), (.ref x), (.int v639), (.ref (A 6))])) rfl rfl (hb hby d22_56)
  obtain ⟨M642, d_M642, hf643⟩ := own_nam hf640
  clear hf640
  have B642 := B636.put hSl 0 rfl W642
  rw [← d_M642] at B642
  have O642 : Old Z n0 h642 := O636.wr W642 B636.oldx
  have N642 := Fr.snoc X642 N636 B636.oldx
  obtain ⟨g644, hf645⟩ := own_gd hf643
  clear hf643
  obtain ⟨cl646, Ar646, hin646⟩ := B642.at 6 (Or.inl (by decide)) g644
  have At646 : Arr Z h642 (A 6) cl646 .int := Ar646
  obtain ⟨T647, h647, X647, e647, W647, st647⟩ := stI X642 hx hZ e642 At646 (j := v639) hin646 (g := (mkF m 62 (lt6 x p1 p2 p3) [(.int (p1 ^^^ (-1 : Int32))), (.int v639), (.ref (A 6))])) rfl rfl (hb hby d22_62)
  obtain ⟨M647, d_M647, hf648⟩ := own_nam hf645
  clear hf645
  have B647 := B642.wr (v := (p1 ^^^ (-1 : Int32))) 6 (Or.inl (by decide)) g644 W647 rfl
  rw [← d_M647] at B647
  have O647 : Old Z n0 h647 := O642.wr W647 (B642.old 6 (Or.inl (by decide)))
  have N647 := Fr.snoc X647 N642 (B642.old 6 (Or.inl (by decide)))
  obtain ⟨T649, X649, e649, st649⟩ := getF X647 hx hZ hown (host := "") (Or.inl (hw _ (tk 39 rfl))) Via.refl e647 (B647.fld 4 rfl) (g := (mkF m 64 (lt6 x p1 p2 p3) [(.ref x)])) rfl rfl (hb hby d22_64)
  obtain ⟨cl650, Ar650, hin650⟩ := B647.at 2 (Or.inl (by decide)) g611
  have At650 : Arr Z h647 (A 2) cl650 .int := Ar650
  obtain ⟨T651, h651, X651, e651, W651, st651⟩ := stI X649 hx hZ e649 At650 (j := p1) hin650 (g := (mkF m 69 (lt6 x p1 p2 p3) [(.int p2), (.int p1), (.ref (A 2))])) rfl rfl (hb hby d22_69)
  obtain ⟨M651, d_M651, hf652⟩ := own_nam hf648
  clear hf648
  have B651 := B647.wr (v := p2) 2 (Or.inl (by decide)) g611 W651 rfl
  rw [← d_M651] at B651
  have O651 : Old Z n0 h651 := O647.wr W651 (B647.old 2 (Or.inl (by decide)))
  have N651 := Fr.snoc X651 N647 (B647.old 2 (Or.inl (by decide)))
  obtain ⟨T653, X653, e653, st653⟩ := getF X651 hx hZ hown (host := "") (Or.inl (hw _ (tk 41 rfl))) Via.refl e651 (B651.fld 5 rfl) (g := (mkF m 71 (lt6 x p1 p2 p3) [(.ref x)])) rfl rfl (hb hby d22_71)
  obtain ⟨cl654, Ar654, hin654⟩ := B651.at 3 (Or.inl (by decide)) g628
  have At654 : Arr Z h651 (A 3) cl654 .int := Ar654
  obtain ⟨T655, h655, X655, e655, W655, st655⟩ := stI X653 hx hZ e653 At654 (j := p1) hin654 (g := (mkF m 76 (lt6 x p1 p2 p3) [(.int p3), (.int p1), (.ref (A 3))])) rfl rfl (hb hby d22_76)
  obtain ⟨M655, d_M655, hf656⟩ := own_nam hf652
  clear hf652
  have B655 := B651.wr (v := p3) 3 (Or.inl (by decide)) g628 W655 rfl
  rw [← d_M655] at B655
  have O655 : Old Z n0 h655 := O651.wr W655 (B651.old 3 (Or.inl (by decide)))
  have N655 := Fr.snoc X655 N651 (B651.old 3 (Or.inl (by decide)))
  obtain ⟨rfl, rfl⟩ := own_ret hf656
  obtain ⟨fs, hr, hrun, hended, hW, hsame⟩ := X655.leave (v := none) (fun _ => rfl) (BodyLoose.notSynchronized Bd)
  refine hno ⟨_, _, pre0 _ ?_, hrun, hended, _, _, rfl, ?_, ⟨_, rfl⟩, hW, hsame.mono (by decide) (by decide)⟩
  · show Sp p e below s₁ (mkF m 0 (lt6 x p1 p2 p3) []) _
    refine XS.aloadN X0.here hx rfl (hb hby d22_0) rfl rfl ?_
    show Sp p e below s₁ (mkF m 1 (lt6 x p1 p2 p3) [(.ref x)]) _
    refine st604 _ ?_
    show Sp p e below T604 (mkF m 4 (lt6 x p1 p2 p3) [(.ref (A 6))]) _
    refine XS.aloadN X604.here hx rfl (hb hby d22_4) rfl rfl ?_
    refine XS.dup X604.here hx rfl (hb hby d22_5) rfl rfl ?_
    show Sp p e below T604 (mkF m 6 (lt6 x p1 p2 p3) [(.ref x), (.ref x), (.ref (A 6))]) _
    refine st607 _ ?_
    show Sp p e below T607 (mkF m 9 (lt6 x p1 p2 p3) [(.int v605), (.ref x), (.ref (A 6))]) _
    refine XS.dupX1 X607.here hx rfl (hb hby d22_9) rfl rfl rfl ?_
    refine XS.iconst X607.here hx rfl (hb hby d22_10) ?_
    show Sp p e below T607 (mkF m 11 (lt6 x p1 p2 p3) [(.int (1 : Int32)), (.int v605), (.ref x), (.int v605), (.ref (A 6))]) _
    refine XS.iadd X607.here hx rfl (hb hby d22_11) rfl ?_
    show Sp p e below T607 (mkF m 12 (lt6 x p1 p2 p3) [(.int (v605 + (1 : Int32))), (.ref x), (.int v605), (.ref (A 6))]) _
    refine st608 _ ?_
    show Sp p e below T608 (mkF m 15 (lt6 x p1 p2 p3) [(.int v605), (.ref (A 6))]) _
    refine XS.aloadN X608.here hx rfl (hb hby d22_15) rfl rfl ?_
    show Sp p e below T608 (mkF m 16 (lt6 x p1 p2 p3) [(.ref x), (.int v605), (.ref (A 6))]) _
    refine st610 _ ?_
    show Sp p e below T610 (mkF m 19 (lt6 x p1 p2 p3) [(.ref (A 2)), (.int v605), (.ref (A 6))]) _
    refine XS.iloadN X610.here hx rfl (hb hby d22_19) rfl ?_
    show Sp p e below T610 (mkF m 20 (lt6 x p1 p2 p3) [(.int p1), (.ref (A 2)), (.int v605), (.ref (A 6))]) _
    refine X610.iaload hx (j := p1) (v := (.int v614)) (by rw [e610]; exact Ar613.1) (State.isArrayOf_alike hZ.alike At613.2.1) At613.2.2 hin613 hat613 (g := (mkF m 20 (lt6 x p1 p2 p3) [(.int p1), (.ref (A 2)), (.int v605), (.ref (A 6))])) rfl rfl (hb hby d22_20) _ ?_
    show Sp p e below T610 (mkF m 21 (lt6 x p1 p2 p3) [(.int v614), (.int v605), (.ref (A 6))]) _
    refine st619 _ ?_
    show Sp p e below T619 (mkF m 22 (lt6 x p1 p2 p3) []) _
    refine XS.aloadN X619.here hx rfl (hb hby d22_22) rfl rfl ?_
    show Sp p e below T619 (mkF m 23 (lt6 x p1 p2 p3) [(.ref x)]) _
    refine st621 _ ?_
    show Sp p e below T621 (mkF m 26 (lt6 x p1 p2 p3) [(.ref (A 6))]) _
    refine XS.aloadN X621.here hx rfl (hb hby d22_26) rfl rfl ?_
    refine XS.dup X621.here hx rfl (hb hby d22_27) rfl rfl ?_
    show Sp p e below T621 (mkF m 28 (lt6 x p1 p2 p3) [(.ref x), (.ref x), (.ref (A 6))]) _
    refine st624 _ ?_
    show Sp p e below T624 (mkF m 31 (lt6 x p1 p2 p3) [(.int v622), (.ref x), (.ref (A 6))]) _
    refine XS.dupX1 X624.here hx rfl (hb hby d22_31) rfl rfl rfl ?_
    refine XS.iconst X624.here hx rfl (hb hby d22_32) ?_
    show Sp p e below T624 (mkF m 33 (lt6 x p1 p2 p3) [(.int (1 : Int32)), (.int v622), (.ref x), (.int v622), (.ref (A 6))]) _
    refine XS.iadd X624.here hx rfl (hb hby d22_33) rfl ?_
    show Sp p e below T624 (mkF m 34 (lt6 x p1 p2 p3) [(.int (v622 + (1 : Int32))), (.ref x), (.int v622), (.ref (A 6))]) _
    refine st625 _ ?_
    show Sp p e below T625 (mkF m 37 (lt6 x p1 p2 p3) [(.int v622), (.ref (A 6))]) _
    refine XS.aloadN X625.here hx rfl (hb hby d22_37) rfl rfl ?_
    show Sp p e below T625 (mkF m 38 (lt6 x p1 p2 p3) [(.ref x), (.int v622), (.ref (A 6))]) _
    refine st627 _ ?_
    show Sp p e below T627 (mkF m 41 (lt6 x p1 p2 p3) [(.ref (A 3)), (.int v622), (.ref (A 6))]) _
    refine XS.iloadN X627.here hx rfl (hb hby d22_41) rfl ?_
    show Sp p e below T627 (mkF m 42 (lt6 x p1 p2 p3) [(.int p1), (.ref (A 3)), (.int v622), (.ref (A 6))]) _
    refine X627.iaload hx (j := p1) (v := (.int v631)) (by rw [e627]; exact Ar630.1) (State.isArrayOf_alike hZ.alike At630.2.1) At630.2.2 hin630 hat630 (g := (mkF m 42 (lt6 x p1 p2 p3) [(.int p1), (.ref (A 3)), (.int v622), (.ref (A 6))])) rfl rfl (hb hby d22_42) _ ?_
    show Sp p e below T627 (mkF m 43 (lt6 x p1 p2 p3) [(.int v631), (.int v622), (.ref (A 6))]) _
    refine st636 _ ?_
    show Sp p e below T636 (mkF m 44 (lt6 x p1 p2 p3) []) _
    refine XS.aloadN X636.here hx rfl (hb hby d22_44) rfl rfl ?_
    show Sp p e below T636 (mkF m 45 (lt6 x p1 p2 p3) [(.ref x)]) _
    refine st638 _ ?_
    show Sp p e below T638 (mkF m 48 (lt6 x p1 p2 p3) [(.ref (A 6))]) _
    refine XS.aloadN X638.here hx rfl (hb hby d22_48) rfl rfl ?_
    refine XS.dup X638.here hx rfl (hb hby d22_49) rfl rfl ?_
    show Sp p e below T638 (mkF m 50 (lt6 x p1 p2 p3) [(.ref x), (.ref x), (.ref (A 6))]) _
    refine st641 _ ?_
    show Sp p e below T641 (mkF m 53 (lt6 x p1 p2 p3) [(.int v639), (.ref x), (.ref (A 6))]) _
    refine XS.dupX1 X641.here hx rfl (hb hby d22_53) rfl rfl rfl ?_
    refine XS.iconst X641.here hx rfl (hb hby d22_54) ?_
    show Sp p e below T641 (mkF m 55 (lt6 x p1 p2 p3) [(.int (1 : Int32)), (.int v639), (.ref x), (.int v639), (.ref (A 6))]) _
    refine XS.iadd X641.here hx rfl (hb hby d22_55) rfl ?_
    show Sp p e below T641 (mkF m 56 (lt6 x p1 p2 p3) [(.int (v639 + (1 : Int32))), (.ref x), (.int v639), (.ref (A 6))]) _
    refine st642 _ ?_
    show Sp p e below T642 (mkF m 59 (lt6 x p1 p2 p3) [(.int v639), (.ref (A 6))]) _
    refine XS.iloadN X642.here hx rfl (hb hby d22_59) rfl ?_
    refine XS.iconst X642.here hx rfl (hb hby d22_60) ?_
    show Sp p e below T642 (mkF m 61 (lt6 x p1 p2 p3) [(.int (-1 : Int32)), (.int p1), (.int v639), (.ref (A 6))]) _
    refine XS.ixor X642.here hx rfl (hb hby d22_61) rfl ?_
    show Sp p e below T642 (mkF m 62 (lt6 x p1 p2 p3) [(.int (p1 ^^^ (-1 : Int32))), (.int v639), (.ref (A 6))]) _
    refine st647 _ ?_
    show Sp p e below T647 (mkF m 63 (lt6 x p1 p2 p3) []) _
    refine XS.aloadN X647.here hx rfl (hb hby d22_63) rfl rfl ?_
    show Sp p e below T647 (mkF m 64 (lt6 x p1 p2 p3) [(.ref x)]) _
    refine st649 _ ?_
    show Sp p e below T649 (mkF m 67 (lt6 x p1 p2 p3) [(.ref (A 2))]) _
    refine XS.iloadN X649.here hx rfl (hb hby d22_67) rfl ?_
    refine XS.iloadN X649.here hx rfl (hb hby d22_68) rfl ?_
    show Sp p e below T649 (mkF m 69 (lt6 x p1 p2 p3) [(.int p2), (.int p1), (.ref (A 2))]) _
    refine st651 _ ?_
    show Sp p e below T651 (mkF m 70 (lt6 x p1 p2 p3) []) _
    refine XS.aloadN X651.here hx rfl (hb hby d22_70) rfl rfl ?_
    show Sp p e below T651 (mkF m 71 (lt6 x p1 p2 p3) [(.ref x)]) _
    refine st653 _ ?_
    show Sp p e below T653 (mkF m 74 (lt6 x p1 p2 p3) [(.ref (A 3))]) _
    refine XS.iloadN X653.here hx rfl (hb hby d22_74) rfl ?_
    refine XS.iloadN X653.here hx rfl (hb hby d22_75) rfl ?_
    show Sp p e below T653 (mkF m 76 (lt6 x p1 p2 p3) [(.int p3), (.int p1), (.ref (A 3))]) _
    refine st655 _ ?_
    show Sp p e below T655 (mkF m 77 (lt6 x p1 p2 p3) []) _
    exact X655.returnOut hx Bd.returns (hb hby d22_77) hr
  · show Q22 Z n0 ex x A K S0 nc _ _ _ T655.heap _
    rw [e655]
    exact ⟨rfl, N655, O655, B655⟩
theorem pn_21 : plainName "com/example/onetree/onetree/EdgeStates" = true := by first | (simp [plainName, overriddenIn]; done) | decide +kernel
def f21 (nc : Nat) (M : MM) (p1 : Int32) (p2 : Int32) : Option (Int32 × MM) := gd (inr p1 nc) (gd (inr p2 nc) (nai (ld M (14 + ix p1) (ix p2)) fun v538 => cnd (eqB v538 (0 : Int32)) (gd (inr p1 (lnR nc 0)) (nai (ld M 0 (ix p1)) fun v546 => cnd (eqB v546 (2 : Int32)) (some ((0 : Int32), M)) (gd (inr p2 (lnR nc 0)) (nai (ld M 0 (ix p2)) fun v554 => cnd (eqB v554 (2 : Int32)) (some ((0 : Int32), M)) (gd (inr p1 (lnR nc 2)) (nai (ld M 2 (ix p1)) fun v562 => gd (inr p2 (lnR nc 2)) (nai (ld M 2 (ix p2)) fun v568 => bnd (f17 nc M p1 p2 (1 : Int32)) fun v570 M570 => nai (ld M570 0 (ix p1)) fun v574 => nam (sto M570 0 (ix p1) (v574 + (1 : Int32))) fun M577 => nai (ld M577 0 (ix p2)) fun v581 => nam (sto M577 0 (ix p2) (v581 + (1 : Int32))) fun M584 => bnd (f18 nc M584 p1) fun v586 M586 => bnd (f18 nc M586 p2) fun v588 M588 => cnd (eqB v562 p2) (some ((1 : Int32), M588)) (gd (inr p1 (lnR nc 3)) (nai (ld M588 3 (ix p1)) fun v596 => gd (inr p2 (lnR nc 3)) (nai (ld M588 3 (ix p2)) fun v602 => bnd (f22 nc M588 v562 v568 (v596 + v602)) fun v657 M657 => bnd (f22 nc M657 v568 v562 (v596 + v602)) fun v659 M659 => cnd (eqB (v596 + v602) (Int32.ofNat nc)) (some ((1 : Int32), M659)) (cnd (eqB (v596 + v602) (2 : Int32)) (some ((1 : Int32), M659)) (bnd (f16 nc M659 v562 v568) fun v666 M666 => cnd (eqB v666 (0 : Int32)) (some ((0 : Int32), M666)) (some ((1 : Int32), M666)))))))))))))) (cnd (eqB v538 (1 : Int32)) (some ((1 : Int32), M)) (some ((0 : Int32), M)))))
theorem ef_21 (m : MethodId) (x : Addr) (A : Nat → Addr) (p1 : Int32) (p2 : Int32) : entryFrame m #[(.ref x), (.int p1), (.int p2)] 7 = mkF m 0 #[.val (.ref x), .val (.int p1), .val (.int p2), .unset, .unset, .unset, .unset] [] := by first | (simp [entryFrame, mkF, argsToLocals, Value.category]; done) | rfl
def Q21 (Z : State) (n0 : Nat) (ex : Bool) (x : Addr) (A : Nat → Addr) (K : Nat → ClassId) (S0 : Addr) (nc : Nat) (rv : Int32) (M' : MM) (v : Option Value) (h : Heap) (L : List Loc) : Prop := v = some (.int rv) ∧ Fr n0 L ∧ Old Z n0 h ∧ EB Z n0 ex h x A K S0 nc M'
set_option maxRecDepth 65536 in
set_option maxHeartbeats 40000000 in
theorem rm21 (l : Launch) (Z : State) (a0 : Array Value) (hw : ∀ d ∈ tables_1, d.before a0 Z = true) (ws : List Jvm.Cond) (hSl : SlotsOK Z) (ex : Bool) (x : Addr) (A : Nat → Addr) (K : Nat → ClassId) (S0 : Addr) (nc : Nat) (M : MM) (p1 : Int32) (p2 : Int32) (rv : Int32) (M' : MM) (h0 : Heap) (n0 : Nat) (O0 : Old Z n0 h0) (B0 : EB Z n0 ex h0 x A K S0 nc M) (hf : f21 nc M p1 p2 = some (rv, M')) :
    MetFree l Y32 (head1 (Jvm.Cond.code Y32 prog_7_method_20_code 7 (some .boolean) :: ws) ({ frames := 2, cells := 0, slots := 0, locals := 30 } : Room)) (fun a U => a = #[(.ref x), (.int p1), (.int p2)] ∧ Z.Warmed39 U.vm ∧ U.heap = h0) (fun _ _ _ _ _ => True) (fun _ U o U' => ∃ v L, o = .returned v ∧ Q21 Z n0 ex x A K S0 nc rv M' v U'.heap L ∧ FrameEnd U o U' L ({ frames := 2, cells := 0, slots := 0, locals := 30 } : Room).cells ({ frames := 2, cells := 0, slots := 0, locals := 30 } : Room).slots) := by
  refine MetFree.of_bodySF (plainFor_of_name pn_21) hisR ?_
  intro p e s m args below meth c s₁ Bd hml0 hP hK
  obtain ⟨rfl, hZ, hh⟩ := hP
  have hx := Bd.exec
  have hby := Bd.bytes
  have hml : c.maxLocals = 7 := hml0
  have hown : s.vm.findClass "com/example/onetree/onetree/EdgeStates" = some m.cls := findClass_of_methodNamed Bd.named
  have X0 : Stand p l e ({ frames := 2, cells := 0, slots := 0, locals := 30 } : Room) s m #[(.ref x), (.int p1), (.int p2)] below meth c s₁ [] 0 0 := Stand.of_body Bd
  have e0 : s₁.heap = h0 := by rw [← hh, Bd.state]; rfl
  have N0 := Fr.nil n0
  have pre0 : ∀ t, Steps p.tables e below (s₁.setTop (mkF m 0 #[.val (.ref x), .val (.int p1), .val (.int p2), .unset, .unset, .unset, .unset] [])) t → Steps p.tables e below (s₁.setTop (entryFrame m #[(.ref x), (.int p1), (.int p2)] 7)) t := fun t k => castTop (ef_21 m x A p1 p2) k
  generalize hE0 : s₁.setTop (entryFrame m #[(.ref x), (.int p1), (.int p2)] 7) = E0 at pre0 ⊢
  apply Classical.byContradiction
  intro hno
  unfold f21 at hf
  obtain ⟨T531, X531, e531, st531⟩ := getF X0 hx hZ hown (host := "") (Or.inl (hw _ (tk 21 rfl))) Via.refl e0 (B0.fld 1 rfl) (g := (mkF m 1 (lt20 x p1 p2) [(.ref x)])) rfl rfl (hb hby d21_1)
  obtain ⟨g532, hf533⟩ := own_gd hf
  clear hf
  obtain ⟨cl534, Ar534, hin534, hat534⟩ := B0.getS g532
  obtain ⟨g535, hf536⟩ := own_gd hf533
  clear hf533
  obtain ⟨v538, d_v538, hf539⟩ := own_nai hf536
  clear hf536
  obtain ⟨cl537, Ar537, hin537, hat537⟩ := B0.get (14 + ix p1) (B0.isS g532) (own_gS g535) d_v538
  have At537 := own_tyA Ar537
  have pre540 : Cm p e below E0 (T531.setTop (mkF m 10 (lt21 x p1 p2 v538) [(.int v538)])) := fun t kt => by
    refine pre0 t ?_
    show Sp p e below s₁ (mkF m 0 (lt20 x p1 p2) []) _
    refine XS.aloadN X0.here hx rfl (hb hby d21_0) rfl rfl ?_
    show Sp p e below s₁ (mkF m 1 (lt20 x p1 p2) [(.ref x)]) _
    refine st531 _ ?_
    show Sp p e below T531 (mkF m 4 (lt20 x p1 p2) [(.ref S0)]) _
    refine XS.iloadN X531.here hx rfl (hb hby d21_4) rfl ?_
    show Sp p e below T531 (mkF m 5 (lt20 x p1 p2) [(.int p1), (.ref S0)]) _
    refine X531.aaload hx (j := p1) (v := .ref (A (14 + ix p1))) (by rw [e531]; exact Ar534.1) (State.isArrayOf_alike hZ.alike Ar534.2.1) rfl Ar534.2.2 hin534 hat534 (g := (mkF m 5 (lt20 x p1 p2) [(.int p1), (.ref S0)])) rfl rfl (hb hby d21_5) _ ?_
    show Sp p e below T531 (mkF m 6 (lt20 x p1 p2) [(.ref (A (14 + ix p1)))]) _
    refine XS.iloadN X531.here hx rfl (hb hby d21_6) rfl ?_
    show Sp p e below T531 (mkF m 7 (lt20 x p1 p2) [(.int p2), (.ref (A (14 + ix p1)))]) _
    refine X531.baloadBytes hx (j := p2) (v := (.int v538)) (by rw [e531]; exact Ar537.1) (State.isArrayOf_alike hZ.alike At537.2.1) At537.2.2 hin537 hat537 (g := (mkF m 7 (lt20 x p1 p2) [(.int p2), (.ref (A (14 + ix p1)))])) rfl rfl (hb hby d21_7) _ ?_
    show Sp p e below T531 (mkF m 8 (lt20 x p1 p2) [(.int v538)]) _
    refine XS.istoreN X531.here hx rfl (hb hby d21_8) rfl (l' := (lt21 x p1 p2 v538)) rfl ?_
    refine XS.iloadN X531.here hx rfl (hb hby d21_9) rfl ?_
    show Sp p e below T531 (mkF m 10 (lt21 x p1 p2 v538) [(.int v538)]) _
    exact kt
  by_cases hc541 : v538 = (0 : Int32)
  · rw [own_eqT hc541] at hf539
    obtain ⟨T542, X542, e542, st542⟩ := getF X531 hx hZ hown (host := "") (Or.inl (hw _ (tk 24 rfl))) Via.refl e531 (B0.fld 2 rfl) (g := (mkF m 25 (lt21 x p1 p2 v538) [(.ref x)])) rfl rfl (hb hby d21_25)
    obtain ⟨g543, hf544⟩ := own_gd hf539
    clear hf539
    obtain ⟨v546, d_v546, hf547⟩ := own_nai hf544
    clear hf544
    obtain ⟨cl545, Ar545, hin545, hat545⟩ := B0.get 0 (Or.inl (by decide)) g543 d_v546
    have At545 : Arr Z h0 (A 0) cl545 .int := Ar545
    have pre548 : Cm p e below E0 (T542.setTop (mkF m 31 (lt21 x p1 p2 v538) [(.int (2 : Int32)), (.int v546)])) := fun t kt => by
      refine pre540 t ?_
      show Sp p e below T531 (mkF m 10 (lt21 x p1 p2 v538) [(.int v538)]) _
      refine XS.ifYes X531.here hx rfl (pc0 := 10) (pc' := 24) rfl (hb hby d21_10) rfl ((if0 _ _).trans (teq hc541).1) (by decide) (by decide) ?_
      show Sp p e below T531 (mkF m 24 (lt21 x p1 p2 v538) []) _
      refine XS.aloadN X531.here hx rfl (hb hby d21_24) rfl rfl ?_
      show Sp p e below T531 (mkF m 25 (lt21 x p1 p2 v538) [(.ref x)]) _
      refine st542 _ ?_
      show Sp p e below T542 (mkF m 28 (lt21 x p1 p2 v538) [(.ref (A 0))]) _
      refine XS.iloadN X542.here hx rfl (hb hby d21_28) rfl ?_
      show Sp p e below T542 (mkF m 29 (lt21 x p1 p2 v538) [(.int p1), (.ref (A 0))]) _
      refine X542.iaload hx (j := p1) (v := (.int v546)) (by rw [e542]; exact Ar545.1) (State.isArrayOf_alike hZ.alike At545.2.1) At545.2.2 hin545 hat545 (g := (mkF m 29 (lt21 x p1 p2 v538) [(.int p1), (.ref (A 0))])) rfl rfl (hb hby d21_29) _ ?_
      show Sp p e below T542 (mkF m 30 (lt21 x p1 p2 v538) [(.int v546)]) _
      refine XS.iconst X542.here hx rfl (hb hby d21_30) ?_
      show Sp p e below T542 (mkF m 31 (lt21 x p1 p2 v538) [(.int (2 : Int32)), (.int v546)]) _
      exact kt
    by_cases hc549 : v546 = (2 : Int32)
    · rw [own_eqT hc549] at hf547
      obtain ⟨rfl, rfl⟩ := own_ret hf547
      obtain ⟨fs, hr, hrun, hended, hW, hsame⟩ := X542.leave (v := some (.int (0 : Int32))) (fun h => by rw [Bd.returns] at h; cases h) (BodyLoose.notSynchronized Bd)
      refine hno ⟨_, _, pre548 _ ?_, hrun, hended, _, _, rfl, ?_, ⟨_, rfl⟩, hW, hsame.mono (by decide) (by decide)⟩
      · show Sp p e below T542 (mkF m 31 (lt21 x p1 p2 v538) [(.int (2 : Int32)), (.int v546)]) _
        refine XS.icmpYes X542.here hx rfl (pc0 := 31) (pc' := 44) rfl (hb hby d21_31) rfl (teq hc549).1 (by decide) (by decide) ?_
        show Sp p e below T542 (mkF m 44 (lt21 x p1 p2 v538) []) _
        refine XS.iconst X542.here hx rfl (hb hby d21_44) ?_
        show Sp p e below T542 (mkF m 45 (lt21 x p1 p2 v538) [(.int (0 : Int32))]) _
        exact retN X542 hx (t := .boolean) Bd.returns (by simp) (hb hby d21_45) hr
      · show Q21 Z n0 ex x A K S0 nc _ _ _ T542.heap _
        rw [e542]
        exact ⟨rfl, N0, O0, B0⟩
    · rw [own_eqF hc549] at hf547
      obtain ⟨T550, X550, e550, st550⟩ := getF X542 hx hZ hown (host := "") (Or.inl (hw _ (tk 24 rfl))) Via.refl e542 (B0.fld 2 rfl) (g := (mkF m 35 (lt21 x p1 p2 v538) [(.ref x)])) rfl rfl (hb hby d21_35)
      obtain ⟨g551, hf552⟩ := own_gd hf547
      clear hf547
      obtain ⟨v554, d_v554, hf555⟩ := own_nai hf552
      clear hf552
      obtain ⟨cl553, Ar553, hin553, hat553⟩ := B0.get 0 (Or.inl (by decide)) g551 d_v554
      have At553 : Arr Z h0 (A 0) cl553 .int := Ar553
      have pre556 : Cm p e below E0 (T550.setTop (mkF m 41 (lt21 x p1 p2 v538) [(.int (2 : Int32)), (.int v554)])) := fun t kt => by
        refine pre548 t ?_
        show Sp p e below T542 (mkF m 31 (lt21 x p1 p2 v538) [(.int (2 : Int32)), (.int v546)]) _
        refine XS.icmpNo X542.here hx rfl (hb hby d21_31) rfl (feq hc549).1 ?_
        show Sp p e below T542 (mkF m 34 (lt21 x p1 p2 v538) []) _
        refine XS.aloadN X542.here hx rfl (hb hby d21_34) rfl rfl ?_
        show Sp p e below T542 (mkF m 35 (lt21 x p1 p2 v538) [(.ref x)]) _
        refine st550 _ ?_
        show Sp p e below T550 (mkF m 38 (lt21 x p1 p2 v538) [(.ref (A 0))]) _
        refine XS.iloadN X550.here hx rfl (hb hby d21_38) rfl ?_
        show Sp p e below T550 (mkF m 39 (lt21 x p1 p2 v538) [(.int p2), (.ref (A 0))]) _
        refine X550.iaload hx (j := p2) (v := (.int v554)) (by rw [e550]; exact Ar553.1) (State.isArrayOf_alike hZ.alike At553.2.1) At553.2.2 hin553 hat553 (g := (mkF m 39 (lt21 x p1 p2 v538) [(.int p2), (.ref (A 0))])) rfl rfl (hb hby d21_39) _ ?_
        show Sp p e below T550 (mkF m 40 (lt21 x p1 p2 v538) [(.int v554)]) _
        refine XS.iconst X550.here hx rfl (hb hby d21_40) ?_
        show Sp p e below T550 (mkF m 41 (lt21 x p1 p2 v538) [(.int (2 : Int32)), (.int v554)]) _
        exact kt
      by_cases hc557 : v554 = (2 : Int32)
      · rw [own_eqT hc557] at hf555
        obtain ⟨rfl, rfl⟩ := own_ret hf555
        obtain ⟨fs, hr, hrun, hended, hW, hsame⟩ := X550.leave (v := some (.int (0 : Int32))) (fun h => by rw [Bd.returns] at h; cases h) (BodyLoose.notSynchronized Bd)
        refine hno ⟨_, _, pre556 _ ?_, hrun, hended, _, _, rfl, ?_, ⟨_, rfl⟩, hW, hsame.mono (by decide) (by decide)⟩
        · show Sp p e below T550 (mkF m 41 (lt21 x p1 p2 v538) [(.int (2 : Int32)), (.int v554)]) _
          refine XS.icmpNo X550.here hx rfl (hb hby d21_41) rfl (teq hc557).2 ?_
          show Sp p e below T550 (mkF m 44 (lt21 x p1 p2 v538) []) _
          refine XS.iconst X550.here hx rfl (hb hby d21_44) ?_
          show Sp p e below T550 (mkF m 45 (lt21 x p1 p2 v538) [(.int (0 : Int32))]) _
          exact retN X550 hx (t := .boolean) Bd.returns (by simp) (hb hby d21_45) hr
        · show Q21 Z n0 ex x A K S0 nc _ _ _ T550.heap _
          rw [e550]
          exact ⟨rfl, N0, O0, B0⟩
      · rw [own_eqF hc557] at hf555
        obtain ⟨T558, X558, e558, st558⟩ := getF X550 hx hZ hown (host := "") (Or.inl (hw _ (tk 39 rfl))) Via.refl e550 (B0.fld 4 rfl) (g := (mkF m 47 (lt21 x p1 p2 v538) [(.ref x)])) rfl rfl (hb hby d21_47)
        obtain ⟨g559, hf560⟩ := own_gd hf555
        clear hf555
        obtain ⟨v562, d_v562, hf563⟩ := own_nai hf560
        clear hf560
        obtain ⟨cl561, Ar561, hin561, hat561⟩ := B0.get 2 (Or.inl (by decide)) g559 d_v562
        have At561 : Arr Z h0 (A 2) cl561 .int := Ar561
        obtain ⟨T564, X564, e564, st564⟩ := getF X558 hx hZ hown (host := "") (Or.inl (hw _ (tk 39 rfl))) Via.refl e558 (B0.fld 4 rfl) (g := (mkF m 55 (lt22 x p1 p2 v538 v562) [(.ref x)])) rfl rfl (hb hby d21_55)
        obtain ⟨g565, hf566⟩ := own_gd hf563
        clear hf563
        obtain ⟨v568, d_v568, hf569⟩ := own_nai hf566
        clear hf566
        obtain ⟨cl567, Ar567, hin567, hat567⟩ := B0.get 2 (Or.inl (by decide)) g565 d_v568
        have At567 : Arr Z h0 (A 2) cl567 .int := Ar567
        obtain ⟨v570, M570, hc570, hf571⟩ := own_bnd hf569
        clear hf569
        obtain ⟨cq570, q570, q570'⟩ := B0.exa.cell
        obtain ⟨_, _, ⟨T570, L570, k570, n570⟩, -, X570, ⟨Lc570, hQ570, l570, y570, z570⟩, st570⟩ := X564.privateBack hx (y := Y18) hown (mvT hZ (hw _ (tk 106 rfl))) (mvT hZ (hw _ (tk 107 rfl))) (own_selP rfl (mvT hZ (hw _ (tk 1 rfl))) (Cond.privateMethod_at (mvP hZ (hw _ (tk 108 rfl)) (args := #[]))) (mvT hZ (hw _ (tk 107 rfl))) (by decide)) (Cond.privateMethod_at (mvP hZ (hw _ (tk 108 rfl)) (args := #[]))) (mvT hZ (hw _ (tk 109 rfl))) (by decide) (backOf (W := 0) (rm17 l Z a0 hw [] hSl ex x A K S0 nc M p1 p2 (1 : Int32) v570 M570 h0 n0 O0 B0 hc570) hZ (hw _ (tk 109 rfl)) (hw _ (tk 2 rfl)) (by decide) (by decide)) (g := (mkF m 66 (lt23 x p1 p2 v538 v562 v568) [(.int (1 : Int32)), (.int p2), (.int p1), (.ref x)])) rfl (by rw [hml]; rfl) (Steps.refl _) (a := x) (by rw [e564]; exact q570) q570' (argsL := [(.int p1), (.int p2), (.int (1 : Int32))]) (rest := []) (lenOf pd_4 rfl) rfl (by show 2 * 0 + _ ≤ _; exact Nat.le_of_eq rfl) (hb hby d21_66) (fun _ _ => ⟨rfl, e564, (by decide : 0 + 0 ≤ _), (by decide : 0 + 0 ≤ _)⟩)
        dsimp only [Pt.U, Pt.locs, Pt.cells, Pt.slots] at X570 l570 y570 z570 st570 hQ570
        rw [l570, y570, z570] at X570
        obtain ⟨rv570, N570q, O570, B570⟩ := hQ570
        subst rv570
        have N570 := Fr.app N0 N570q
        obtain ⟨T572, X572, e572, st572⟩ := getF X570 hx hZ hown (host := "") (Or.inl (hw _ (tk 24 rfl))) Via.refl rfl (B570.fld 2 rfl) (g := (mkF m 70 (lt23 x p1 p2 v538 v562 v568) [(.ref x)])) rfl rfl (hb hby d21_70)
        obtain ⟨v574, d_v574, hf575⟩ := own_nai hf571
        clear hf571
        obtain ⟨cl573, Ar573, hin573, hat573⟩ := B570.get 0 (Or.inl (by decide)) g543 d_v574
        have At573 : Arr Z T570.heap (A 0) cl573 .int := Ar573
        obtain ⟨cl576, Ar576, hin576⟩ := B570.at 0 (Or.inl (by decide)) g543
        have At576 : Arr Z T570.heap (A 0) cl576 .int := Ar576
        obtain ⟨T577, h577, X577, e577, W577, st577⟩ := stI X572 hx hZ e572 At576 (j := p1) hin576 (g := (mkF m 78 (lt23 x p1 p2 v538 v562 v568) [(.int (v574 + (1 : Int32))), (.int p1), (.ref (A 0))])) rfl rfl (hb hby d21_78)
        obtain ⟨M577, d_M577, hf578⟩ := own_nam hf575
        clear hf575
        have B577 := B570.wr (v := (v574 + (1 : Int32))) 0 (Or.inl (by decide)) g543 W577 rfl
        rw [← d_M577] at B577
        have O577 : Old Z n0 h577 := O570.wr W577 (B570.old 0 (Or.inl (by decide)))
        have N577 := Fr.snoc X577 N570 (B570.old 0 (Or.inl (by decide)))
        obtain ⟨T579, X579, e579, st579⟩ := getF X577 hx hZ hown (host := "") (Or.inl (hw _ (tk 24 rfl))) Via.refl e577 (B577.fld 2 rfl) (g := (mkF m 80 (lt23 x p1 p2 v538 v562 v568) [(.ref x)])) rfl rfl (hb hby d21_80)
        obtain ⟨v581, d_v581, hf582⟩ := own_nai hf578
        clear hf578
        obtain ⟨cl580, Ar580, hin580, hat580⟩ := B577.get 0 (Or.inl (by decide)) g551 d_v581
        have At580 : Arr Z h577 (A 0) cl580 .int := Ar580
        obtain ⟨cl583, Ar583, hin583⟩ := B577.at 0 (Or.inl (by decide)) g551
        have At583 : Arr Z h577 (A 0) cl583 .int := Ar583
        obtain ⟨T584, h584, X584, e584, W584, st584⟩ := stI X579 hx hZ e579 At583 (j := p2) hin583 (g := (mkF m 88 (lt23 x p1 p2 v538 v562 v568) [(.int (v581 + (1 : Int32))), (.int p2), (.ref (A 0))])) rfl rfl (hb hby d21_88)
        obtain ⟨M584, d_M584, hf585⟩ := own_nam hf582
        clear hf582
        have B584 := B577.wr (v := (v581 + (1 : Int32))) 0 (Or.inl (by decide)) g551 W584 rfl
        rw [← d_M584] at B584
        have O584 : Old Z n0 h584 := O577.wr W584 (B577.old 0 (Or.inl (by decide)))
        have N584 := Fr.snoc X584 N577 (B577.old 0 (Or.inl (by decide)))
        obtain ⟨v586, M586, hc586, hf587⟩ := own_bnd hf585
        clear hf585
        obtain ⟨cq586, q586, q586'⟩ := B584.exa.cell
        obtain ⟨_, _, ⟨T586, L586, k586, n586⟩, -, X586, ⟨Lc586, hQ586, l586, y586, z586⟩, st586⟩ := X584.privateBack hx (y := Y19) hown (mvT hZ (hw _ (tk 110 rfl))) (mvT hZ (hw _ (tk 111 rfl))) (own_selP rfl (mvT hZ (hw _ (tk 1 rfl))) (Cond.privateMethod_at (mvP hZ (hw _ (tk 112 rfl)) (args := #[]))) (mvT hZ (hw _ (tk 111 rfl))) (by decide)) (Cond.privateMethod_at (mvP hZ (hw _ (tk 112 rfl)) (args := #[]))) (mvT hZ (hw _ (tk 113 rfl))) (by decide) (backOf (W := 0) (rm18 l Z a0 hw [] hSl ex x A K S0 nc M584 p1 v586 M586 h584 n0 O584 B584 hc586) hZ (hw _ (tk 113 rfl)) (hw _ (tk 2 rfl)) (by decide) (by decide)) (g := (mkF m 91 (lt23 x p1 p2 v538 v562 v568) [(.int p1), (.ref x)])) rfl (by rw [hml]; rfl) (Steps.refl _) (a := x) (by rw [e584]; exact q586) q586' (argsL := [(.int p1)]) (rest := []) (lenOf pd_3 rfl) rfl (by show 2 * 0 + _ ≤ _; exact Nat.le_of_eq rfl) (hb hby d21_91) (fun _ _ => ⟨rfl, e584, (by decide : 0 + 0 ≤ _), (by decide : 0 + 0 ≤ _)⟩)
        dsimp only [Pt.U, Pt.locs, Pt.cells, Pt.slots] at X586 l586 y586 z586 st586 hQ586
        rw [l586, y586, z586] at X586
        obtain ⟨rv586, N586q, O586, B586⟩ := hQ586
        subst rv586
        have N586 := Fr.app N584 N586q
        obtain ⟨v588, M588, hc588, hf589⟩ := own_bnd hf587
        clear hf587
        obtain ⟨cq588, q588, q588'⟩ := B586.exa.cell
        obtain ⟨_, _, ⟨T588, L588, k588, n588⟩, -, X588, ⟨Lc588, hQ588, l588, y588, z588⟩, st588⟩ := X586.privateBack hx (y := Y19) hown (mvT hZ (hw _ (tk 110 rfl))) (mvT hZ (hw _ (tk 111 rfl))) (own_selP rfl (mvT hZ (hw _ (tk 1 rfl))) (Cond.privateMethod_at (mvP hZ (hw _ (tk 112 rfl)) (args := #[]))) (mvT hZ (hw _ (tk 111 rfl))) (by decide)) (Cond.privateMethod_at (mvP hZ (hw _ (tk 112 rfl)) (args := #[]))) (mvT hZ (hw _ (tk 113 rfl))) (by decide) (backOf (W := 0) (rm18 l Z a0 hw [] hSl ex x A K S0 nc M586 p2 v588 M588 T586.heap n0 O586 B586 hc588) hZ (hw _ (tk 113 rfl)) (hw _ (tk 2 rfl)) (by decide) (by decide)) (g := (mkF m 96 (lt23 x p1 p2 v538 v562 v568) [(.int p2), (.ref x)])) rfl (by rw [hml]; rfl) (Steps.refl _) (a := x) q588 q588' (argsL := [(.int p2)]) (rest := []) (lenOf pd_3 rfl) rfl (by show 2 * 0 + _ ≤ _; exact Nat.le_of_eq rfl) (hb hby d21_96) (fun _ _ => ⟨rfl, rfl, (by decide : 0 + 0 ≤ _), (by decide : 0 + 0 ≤ _)⟩)
        dsimp only [Pt.U, Pt.locs, Pt.cells, Pt.slots] at X588 l588 y588 z588 st588 hQ588
        rw [l588, y588, z588] at X588
        obtain ⟨rv588, N588q, O588, B588⟩ := hQ588
        subst rv588
        have N588 := Fr.app N586 N588q
        have pre590 : Cm p e below E0 (T588.setTop (mkF m 102 (lt23 x p1 p2 v538 v562 v568) [(.int p2), (.int v562)])) := fun t kt => by
          refine pre556 t ?_
          show Sp p e below T550 (mkF m 41 (lt21 x p1 p2 v538) [(.int (2 : Int32)), (.int v554)]) _
          refine XS.icmpYes X550.here hx rfl (pc0 := 41) (pc' := 46) rfl (hb hby d21_41) rfl (feq hc557).2 (by decide) (by decide) ?_
          show Sp p e below T550 (mkF m 46 (lt21 x p1 p2 v538) []) _
          refine XS.aloadN X550.here hx rfl (hb hby d21_46) rfl rfl ?_
          show Sp p e below T550 (mkF m 47 (lt21 x p1 p2 v538) [(.ref x)]) _
          refine st558 _ ?_
          show Sp p e below T558 (mkF m 50 (lt21 x p1 p2 v538) [(.ref (A 2))]) _
          refine XS.iloadN X558.here hx rfl (hb hby d21_50) rfl ?_
          show Sp p e below T558 (mkF m 51 (lt21 x p1 p2 v538) [(.int p1), (.ref (A 2))]) _
          refine X558.iaload hx (j := p1) (v := (.int v562)) (by rw [e558]; exact Ar561.1) (State.isArrayOf_alike hZ.alike At561.2.1) At561.2.2 hin561 hat561 (g := (mkF m 51 (lt21 x p1 p2 v538) [(.int p1), (.ref (A 2))])) rfl rfl (hb hby d21_51) _ ?_
          show Sp p e below T558 (mkF m 52 (lt21 x p1 p2 v538) [(.int v562)]) _
          refine XS.istore X558.here hx rfl (hb hby d21_52) rfl (l' := (lt22 x p1 p2 v538 v562)) rfl ?_
          refine XS.aloadN X558.here hx rfl (hb hby d21_54) rfl rfl ?_
          show Sp p e below T558 (mkF m 55 (lt22 x p1 p2 v538 v562) [(.ref x)]) _
          refine st564 _ ?_
          show Sp p e below T564 (mkF m 58 (lt22 x p1 p2 v538 v562) [(.ref (A 2))]) _
          refine XS.iloadN X564.here hx rfl (hb hby d21_58) rfl ?_
          show Sp p e below T564 (mkF m 59 (lt22 x p1 p2 v538 v562) [(.int p2), (.ref (A 2))]) _
          refine X564.iaload hx (j := p2) (v := (.int v568)) (by rw [e564]; exact Ar567.1) (State.isArrayOf_alike hZ.alike At567.2.1) At567.2.2 hin567 hat567 (g := (mkF m 59 (lt22 x p1 p2 v538 v562) [(.int p2), (.ref (A 2))])) rfl rfl (hb hby d21_59) _ ?_
          show Sp p e below T564 (mkF m 60 (lt22 x p1 p2 v538 v562) [(.int v568)]) _
          refine XS.istore X564.here hx rfl (hb hby d21_60) rfl (l' := (lt23 x p1 p2 v538 v562 v568)) rfl ?_
          refine XS.aloadN X564.here hx rfl (hb hby d21_62) rfl rfl ?_
          show Sp p e below T564 (mkF m 63 (lt23 x p1 p2 v538 v562 v568) [(.ref x)]) _
          refine XS.iloadN X564.here hx rfl (hb hby d21_63) rfl ?_
          refine XS.iloadN X564.here hx rfl (hb hby d21_64) rfl ?_
          show Sp p e below T564 (mkF m 65 (lt23 x p1 p2 v538 v562 v568) [(.int p2), (.int p1), (.ref x)]) _
          refine XS.iconst X564.here hx rfl (hb hby d21_65) ?_
          show Sp p e below T564 (mkF m 66 (lt23 x p1 p2 v538 v562 v568) [(.int (1 : Int32)), (.int p2), (.int p1), (.ref x)]) _
          refine st570.trans ?_
          show Sp p e below T570 (mkF m 69 (lt23 x p1 p2 v538 v562 v568) []) _
          refine XS.aloadN X570.here hx rfl (hb hby d21_69) rfl rfl ?_
          show Sp p e below T570 (mkF m 70 (lt23 x p1 p2 v538 v562 v568) [(.ref x)]) _
          refine st572 _ ?_
          show Sp p e below T572 (mkF m 73 (lt23 x p1 p2 v538 v562 v568) [(.ref (A 0))]) _
          refine XS.iloadN X572.here hx rfl (hb hby d21_73) rfl ?_
          show Sp p e below T572 (mkF m 74 (lt23 x p1 p2 v538 v562 v568) [(.int p1), (.ref (A 0))]) _
          refine XT.dup2 X572.here hx rfl (hb hby d21_74) rfl rfl rfl ?_
          show Sp p e below T572 (mkF m 75 (lt23 x p1 p2 v538 v562 v568) [(.int p1), (.ref (A 0)), (.int p1), (.ref (A 0))]) _
          refine X572.iaload hx (j := p1) (v := (.int v574)) (by rw [e572]; exact Ar573.1) (State.isArrayOf_alike hZ.alike At573.2.1) At573.2.2 hin573 hat573 (g := (mkF m 75 (lt23 x p1 p2 v538 v562 v568) [(.int p1), (.ref (A 0)), (.int p1), (.ref (A 0))])) rfl rfl (hb hby d21_75) _ ?_
          show Sp p e below T572 (mkF m 76 (lt23 x p1 p2 v538 v562 v568) [(.int v574), (.int p1), (.ref (A 0))]) _
          refine XS.iconst X572.here hx rfl (hb hby d21_76) ?_
          refine XS.iadd X572.here hx rfl (hb hby d21_77) rfl ?_
          show Sp p e below T572 (mkF m 78 (lt23 x p1 p2 v538 v562 v568) [(.int (v574 + (1 : Int32))), (.int p1), (.ref (A 0))]) _
          refine st577 _ ?_
          show Sp p e below T577 (mkF m 79 (lt23 x p1 p2 v538 v562 v568) []) _
          refine XS.aloadN X577.here hx rfl (hb hby d21_79) rfl rfl ?_
          show Sp p e below T577 (mkF m 80 (lt23 x p1 p2 v538 v562 v568) [(.ref x)]) _
          refine st579 _ ?_
          show Sp p e below T579 (mkF m 83 (lt23 x p1 p2 v538 v562 v568) [(.ref (A 0))]) _
          refine XS.iloadN X579.here hx rfl (hb hby d21_83) rfl ?_
          show Sp p e below T579 (mkF m 84 (lt23 x p1 p2 v538 v562 v568) [(.int p2), (.ref (A 0))]) _
          refine XT.dup2 X579.here hx rfl (hb hby d21_84) rfl rfl rfl ?_
          show Sp p e below T579 (mkF m 85 (lt23 x p1 p2 v538 v562 v568) [(.int p2), (.ref (A 0)), (.int p2), (.ref (A 0))]) _
          refine X579.iaload hx (j := p2) (v := (.int v581)) (by rw [e579]; exact Ar580.1) (State.isArrayOf_alike hZ.alike At580.2.1) At580.2.2 hin580 hat580 (g := (mkF m 85 (lt23 x p1 p2 v538 v562 v568) [(.int p2), (.ref (A 0)), (.int p2), (.ref (A 0))])) rfl rfl (hb hby d21_85) _ ?_
          show Sp p e below T579 (mkF m 86 (lt23 x p1 p2 v538 v562 v568) [(.int v581), (.int p2), (.ref (A 0))]) _
          refine XS.iconst X579.here hx rfl (hb hby d21_86) ?_
          refine XS.iadd X579.here hx rfl (hb hby d21_87) rfl ?_
          show Sp p e below T579 (mkF m 88 (lt23 x p1 p2 v538 v562 v568) [(.int (v581 + (1 : Int32))), (.int p2), (.ref (A 0))]) _
          refine st584 _ ?_
          show Sp p e below T584 (mkF m 89 (lt23 x p1 p2 v538 v562 v568) []) _
          refine XS.aloadN X584.here hx rfl (hb hby d21_89) rfl rfl ?_
          refine XS.iloadN X584.here hx rfl (hb hby d21_90) rfl ?_
          show Sp p e below T584 (mkF m 91 (lt23 x p1 p2 v538 v562 v568) [(.int p1), (.ref x)]) _
          refine st586.trans ?_
          show Sp p e below T586 (mkF m 94 (lt23 x p1 p2 v538 v562 v568) []) _
          refine XS.aloadN X586.here hx rfl (hb hby d21_94) rfl rfl ?_
          refine XS.iloadN X586.here hx rfl (hb hby d21_95) rfl ?_
          show Sp p e below T586 (mkF m 96 (lt23 x p1 p2 v538 v562 v568) [(.int p2), (.ref x)]) _
          refine st588.trans ?_
          show Sp p e below T588 (mkF m 99 (lt23 x p1 p2 v538 v562 v568) []) _
          refine XS.iload X588.here hx rfl (hb hby d21_99) rfl ?_
          refine XS.iloadN X588.here hx rfl (hb hby d21_101) rfl ?_
          show Sp p e below T588 (mkF m 102 (lt23 x p1 p2 v538 v562 v568) [(.int p2), (.int v562)]) _
          exact kt
        by_cases hc591 : v562 = p2
        · rw [own_eqT hc591] at hf589
          obtain ⟨rfl, rfl⟩ := own_ret hf589
          obtain ⟨fs, hr, hrun, hended, hW, hsame⟩ := X588.leave (v := some (.int (1 : Int32))) (fun h => by rw [Bd.returns] at h; cases h) (BodyLoose.notSynchronized Bd)
          refine hno ⟨_, _, pre590 _ ?_, hrun, hended, _, _, rfl, ?_, ⟨_, rfl⟩, hW, hsame.mono (by decide) (by decide)⟩
          · show Sp p e below T588 (mkF m 102 (lt23 x p1 p2 v538 v562 v568) [(.int p2), (.int v562)]) _
            refine XS.icmpNo X588.here hx rfl (hb hby d21_102) rfl (teq hc591).2 ?_
            show Sp p e below T588 (mkF m 105 (lt23 x p1 p2 v538 v562 v568) []) _
            refine XS.iconst X588.here hx rfl (hb hby d21_105) ?_
            show Sp p e below T588 (mkF m 106 (lt23 x p1 p2 v538 v562 v568) [(.int (1 : Int32))]) _
            exact retN X588 hx (t := .boolean) Bd.returns (by simp) (hb hby d21_106) hr
          · show Q21 Z n0 ex x A K S0 nc _ _ _ T588.heap _
            exact ⟨rfl, N588, O588, B588⟩
        · rw [own_eqF hc591] at hf589
          obtain ⟨T592, X592, e592, st592⟩ := getF X588 hx hZ hown (host := "") (Or.inl (hw _ (tk 41 rfl))) Via.refl rfl (B588.fld 5 rfl) (g := (mkF m 108 (lt23 x p1 p2 v538 v562 v568) [(.ref x)])) rfl rfl (hb hby d21_108)
          obtain ⟨g593, hf594⟩ := own_gd hf589
          clear hf589
          obtain ⟨v596, d_v596, hf597⟩ := own_nai hf594
          clear hf594
          obtain ⟨cl595, Ar595, hin595, hat595⟩ := B588.get 3 (Or.inl (by decide)) g593 d_v596
          have At595 : Arr Z T588.heap (A 3) cl595 .int := Ar595
          obtain ⟨T598, X598, e598, st598⟩ := getF X592 hx hZ hown (host := "") (Or.inl (hw _ (tk 41 rfl))) Via.refl e592 (B588.fld 5 rfl) (g := (mkF m 114 (lt23 x p1 p2 v538 v562 v568) [(.ref x), (.int v596)])) rfl rfl (hb hby d21_114)
          obtain ⟨g599, hf600⟩ := own_gd hf597
          clear hf597
          obtain ⟨v602, d_v602, hf603⟩ := own_nai hf600
          clear hf600
          obtain ⟨cl601, Ar601, hin601, hat601⟩ := B588.get 3 (Or.inl (by decide)) g599 d_v602
          have At601 : Arr Z T588.heap (A 3) cl601 .int := Ar601
          obtain ⟨v657, M657, hc657, hf658⟩ := own_bnd hf603
          clear hf603
          obtain ⟨cq657, q657, q657'⟩ := B588.exa.cell
          obtain ⟨_, _, ⟨T657, L657, k657, n657⟩, -, X657, ⟨Lc657, hQ657, l657, y657, z657⟩, st657⟩ := X598.privateBack hx (y := Y31) hown (mvT hZ (hw _ (tk 130 rfl))) (mvT hZ (hw _ (tk 131 rfl))) (own_selP rfl (mvT hZ (hw _ (tk 1 rfl))) (Cond.privateMethod_at (mvP hZ (hw _ (tk 132 rfl)) (args := #[]))) (mvT hZ (hw _ (tk 131 rfl))) (by decide)) (Cond.privateMethod_at (mvP hZ (hw _ (tk 132 rfl)) (args := #[]))) (mvT hZ (hw _ (tk 133 rfl))) (by decide) (backOf (W := 0) (rm22 l Z a0 hw [] hSl ex x A K S0 nc M588 v562 v568 (v596 + v602) v657 M657 T588.heap n0 O588 B588 hc657) hZ (hw _ (tk 133 rfl)) (hw _ (tk 2 rfl)) (by decide) (by decide)) (g := (mkF m 129 (lt24 x p1 p2 v538 v562 v568 (v596 + v602)) [(.int (v596 + v602)), (.int v568), (.int v562), (.ref x)])) rfl (by rw [hml]; rfl) (Steps.refl _) (a := x) (by rw [e598]; exact q657) q657' (argsL := [(.int v562), (.int v568), (.int (v596 + v602))]) (rest := []) (lenOf pd_6 rfl) rfl (by show 2 * 0 + _ ≤ _; exact Nat.le_of_eq rfl) (hb hby d21_129) (fun _ _ => ⟨rfl, e598, (by decide : 0 + 0 ≤ _), (by decide : 0 + 0 ≤ _)⟩)
          dsimp only [Pt.U, Pt.locs, Pt.cells, Pt.slots] at X657 l657 y657 z657 st657 hQ657
          rw [l657, y657, z657] at X657
          obtain ⟨rv657, N657q, O657, B657⟩ := hQ657
          subst rv657
          have N657 := Fr.app N588 N657q
          obtain ⟨v659, M659, hc659, hf660⟩ := own_bnd hf658
          clear hf658
          obtain ⟨cq659, q659, q659'⟩ := B657.exa.cell
          obtain ⟨_, _, ⟨T659, L659, k659, n659⟩, -, X659, ⟨Lc659, hQ659, l659, y659, z659⟩, st659⟩ := X657.privateBack hx (y := Y31) hown (mvT hZ (hw _ (tk 130 rfl))) (mvT hZ (hw _ (tk 131 rfl))) (own_selP rfl (mvT hZ (hw _ (tk 1 rfl))) (Cond.privateMethod_at (mvP hZ (hw _ (tk 132 rfl)) (args := #[]))) (mvT hZ (hw _ (tk 131 rfl))) (by decide)) (Cond.privateMethod_at (mvP hZ (hw _ (tk 132 rfl)) (args := #[]))) (mvT hZ (hw _ (tk 133 rfl))) (by decide) (backOf (W := 0) (rm22 l Z a0 hw [] hSl ex x A K S0 nc M657 v568 v562 (v596 + v602) v659 M659 T657.heap n0 O657 B657 hc659) hZ (hw _ (tk 133 rfl)) (hw _ (tk 2 rfl)) (by decide) (by decide)) (g := (mkF m 139 (lt24 x p1 p2 v538 v562 v568 (v596 + v602)) [(.int (v596 + v602)), (.int v562), (.int v568), (.ref x)])) rfl (by rw [hml]; rfl) (Steps.refl _) (a := x) q659 q659' (argsL := [(.int v568), (.int v562), (.int (v596 + v602))]) (rest := []) (lenOf pd_6 rfl) rfl (by show 2 * 0 + _ ≤ _; exact Nat.le_of_eq rfl) (hb hby d21_139) (fun _ _ => ⟨rfl, rfl, (by decide : 0 + 0 ≤ _), (by decide : 0 + 0 ≤ _)⟩)
          dsimp only [Pt.U, Pt.locs, Pt.cells, Pt.slots] at X659 l659 y659 z659 st659 hQ659
          rw [l659, y659, z659] at X659
          obtain ⟨rv659, N659q, O659, B659⟩ := hQ659
          subst rv659
          have N659 := Fr.app N657 N659q
          obtain ⟨T661, X661, e661, st661⟩ := getF X659 hx hZ hown (host := "") (Or.inl (hw _ (tk 12 rfl))) Via.refl rfl (B659.fld 0 rfl) (g := (mkF m 145 (lt24 x p1 p2 v538 v562 v568 (v596 + v602)) [(.ref x), (.int (v596 + v602))])) rfl rfl (hb hby d21_145)
          have pre662 : Cm p e below E0 (T661.setTop (mkF m 148 (lt24 x p1 p2 v538 v562 v568 (v596 + v602)) [(.int (Int32.ofNat nc)), (.int (v596 + v602))])) := fun t kt => by
            refine pre590 t ?_
            show Sp p e below T588 (mkF m 102 (lt23 x p1 p2 v538 v562 v568) [(.int p2), (.int v562)]) _
            refine XS.icmpYes X588.here hx rfl (pc0 := 102) (pc' := 107) rfl (hb hby d21_102) rfl (feq hc591).2 (by decide) (by decide) ?_
            show Sp p e below T588 (mkF m 107 (lt23 x p1 p2 v538 v562 v568) []) _
            refine XS.aloadN X588.here hx rfl (hb hby d21_107) rfl rfl ?_
            show Sp p e below T588 (mkF m 108 (lt23 x p1 p2 v538 v562 v568) [(.ref x)]) _
            refine st592 _ ?_
            show Sp p e below T592 (mkF m 111 (lt23 x p1 p2 v538 v562 v568) [(.ref (A 3))]) _
            refine XS.iloadN X592.here hx rfl (hb hby d21_111) rfl ?_
            show Sp p e below T592 (mkF m 112 (lt23 x p1 p2 v538 v562 v568) [(.int p1), (.ref (A 3))]) _
            refine X592.iaload hx (j := p1) (v := (.int v596)) (by rw [e592]; exact Ar595.1) (State.isArrayOf_alike hZ.alike At595.2.1) At595.2.2 hin595 hat595 (g := (mkF m 112 (lt23 x p1 p2 v538 v562 v568) [(.int p1), (.ref (A 3))])) rfl rfl (hb hby d21_112) _ ?_
            show Sp p e below T592 (mkF m 113 (lt23 x p1 p2 v538 v562 v568) [(.int v596)]) _
            refine XS.aloadN X592.here hx rfl (hb hby d21_113) rfl rfl ?_
            show Sp p e below T592 (mkF m 114 (lt23 x p1 p2 v538 v562 v568) [(.ref x), (.int v596)]) _
            refine st598 _ ?_
            show Sp p e below T598 (mkF m 117 (lt23 x p1 p2 v538 v562 v568) [(.ref (A 3)), (.int v596)]) _
            refine XS.iloadN X598.here hx rfl (hb hby d21_117) rfl ?_
            show Sp p e below T598 (mkF m 118 (lt23 x p1 p2 v538 v562 v568) [(.int p2), (.ref (A 3)), (.int v596)]) _
            refine X598.iaload hx (j := p2) (v := (.int v602)) (by rw [e598]; exact Ar601.1) (State.isArrayOf_alike hZ.alike At601.2.1) At601.2.2 hin601 hat601 (g := (mkF m 118 (lt23 x p1 p2 v538 v562 v568) [(.int p2), (.ref (A 3)), (.int v596)])) rfl rfl (hb hby d21_118) _ ?_
            show Sp p e below T598 (mkF m 119 (lt23 x p1 p2 v538 v562 v568) [(.int v602), (.int v596)]) _
            refine XS.iadd X598.here hx rfl (hb hby d21_119) rfl ?_
            refine XS.istore X598.here hx rfl (hb hby d21_120) rfl (l' := (lt24 x p1 p2 v538 v562 v568 (v596 + v602))) rfl ?_
            show Sp p e below T598 (mkF m 122 (lt24 x p1 p2 v538 v562 v568 (v596 + v602)) []) _
            refine XS.aloadN X598.here hx rfl (hb hby d21_122) rfl rfl ?_
            refine XS.iload X598.here hx rfl (hb hby d21_123) rfl ?_
            show Sp p e below T598 (mkF m 125 (lt24 x p1 p2 v538 v562 v568 (v596 + v602)) [(.int v562), (.ref x)]) _
            refine XS.iload X598.here hx rfl (hb hby d21_125) rfl ?_
            refine XS.iload X598.here hx rfl (hb hby d21_127) rfl ?_
            show Sp p e below T598 (mkF m 129 (lt24 x p1 p2 v538 v562 v568 (v596 + v602)) [(.int (v596 + v602)), (.int v568), (.int v562), (.ref x)]) _
            refine st657.trans ?_
            show Sp p e below T657 (mkF m 132 (lt24 x p1 p2 v538 v562 v568 (v596 + v602)) []) _
            refine XS.aloadN X657.here hx rfl (hb hby d21_132) rfl rfl ?_
            refine XS.iload X657.here hx rfl (hb hby d21_133) rfl ?_
            show Sp p e below T657 (mkF m 135 (lt24 x p1 p2 v538 v562 v568 (v596 + v602)) [(.int v568), (.ref x)]) _
            refine XS.iload X657.here hx rfl (hb hby d21_135) rfl ?_
            refine XS.iload X657.here hx rfl (hb hby d21_137) rfl ?_
            show Sp p e below T657 (mkF m 139 (lt24 x p1 p2 v538 v562 v568 (v596 + v602)) [(.int (v596 + v602)), (.int v562), (.int v568), (.ref x)]) _
            refine st659.trans ?_
            show Sp p e below T659 (mkF m 142 (lt24 x p1 p2 v538 v562 v568 (v596 + v602)) []) _
            refine XS.iload X659.here hx rfl (hb hby d21_142) rfl ?_
            refine XS.aloadN X659.here hx rfl (hb hby d21_144) rfl rfl ?_
            show Sp p e below T659 (mkF m 145 (lt24 x p1 p2 v538 v562 v568 (v596 + v602)) [(.ref x), (.int (v596 + v602))]) _
            refine st661 _ ?_
            show Sp p e below T661 (mkF m 148 (lt24 x p1 p2 v538 v562 v568 (v596 + v602)) [(.int (Int32.ofNat nc)), (.int (v596 + v602))]) _
            exact kt
          by_cases hc663 : (v596 + v602) = (Int32.ofNat nc)
          · rw [own_eqT hc663] at hf660
            obtain ⟨rfl, rfl⟩ := own_ret hf660
            obtain ⟨fs, hr, hrun, hended, hW, hsame⟩ := X661.leave (v := some (.int (1 : Int32))) (fun h => by rw [Bd.returns] at h; cases h) (BodyLoose.notSynchronized Bd)
            refine hno ⟨_, _, pre662 _ ?_, hrun, hended, _, _, rfl, ?_, ⟨_, rfl⟩, hW, hsame.mono (by decide) (by decide)⟩
            · show Sp p e below T661 (mkF m 148 (lt24 x p1 p2 v538 v562 v568 (v596 + v602)) [(.int (Int32.ofNat nc)), (.int (v596 + v602))]) _
              refine XS.icmpYes X661.here hx rfl (pc0 := 148) (pc' := 168) rfl (hb hby d21_148) rfl (teq hc663).1 (by decide) (by decide) ?_
              show Sp p e below T661 (mkF m 168 (lt24 x p1 p2 v538 v562 v568 (v596 + v602)) []) _
              refine XS.iconst X661.here hx rfl (hb hby d21_168) ?_
              show Sp p e below T661 (mkF m 169 (lt24 x p1 p2 v538 v562 v568 (v596 + v602)) [(.int (1 : Int32))]) _
              refine XS.goto X661.here hx rfl (pc0 := 169) (pc' := 173) rfl (hb hby d21_169) (by decide) (by decide) ?_
              show Sp p e below T661 (mkF m 173 (lt24 x p1 p2 v538 v562 v568 (v596 + v602)) [(.int (1 : Int32))]) _
              exact retN X661 hx (t := .boolean) Bd.returns (by simp) (hb hby d21_173) hr
            · show Q21 Z n0 ex x A K S0 nc _ _ _ T661.heap _
              rw [e661]
              exact ⟨rfl, N659, O659, B659⟩
          · rw [own_eqF hc663] at hf660
            have pre664 : Cm p e below E0 (T661.setTop (mkF m 154 (lt24 x p1 p2 v538 v562 v568 (v596 + v602)) [(.int (2 : Int32)), (.int (v596 + v602))])) := fun t kt => by
              refine pre662 t ?_
              show Sp p e below T661 (mkF m 148 (lt24 x p1 p2 v538 v562 v568 (v596 + v602)) [(.int (Int32.ofNat nc)), (.int (v596 + v602))]) _
              refine XS.icmpNo X661.here hx rfl (hb hby d21_148) rfl (feq hc663).1 ?_
              show Sp p e below T661 (mkF m 151 (lt24 x p1 p2 v538 v562 v568 (v596 + v602)) []) _
              refine XS.iload X661.here hx rfl (hb hby d21_151) rfl ?_
              refine XS.iconst X661.here hx rfl (hb hby d21_153) ?_
              show Sp p e below T661 (mkF m 154 (lt24 x p1 p2 v538 v562 v568 (v596 + v602)) [(.int (2 : Int32)), (.int (v596 + v602))]) _
              exact kt
            by_cases hc665 : (v596 + v602) = (2 : Int32)
            · rw [own_eqT hc665] at hf660
              obtain ⟨rfl, rfl⟩ := own_ret hf660
              obtain ⟨fs, hr, hrun, hended, hW, hsame⟩ := X661.leave (v := some (.int (1 : Int32))) (fun h => by rw [Bd.returns] at h; cases h) (BodyLoose.notSynchronized Bd)
              refine hno ⟨_, _, pre664 _ ?_, hrun, hended, _, _, rfl, ?_, ⟨_, rfl⟩, hW, hsame.mono (by decide) (by decide)⟩
              · show Sp p e below T661 (mkF m 154 (lt24 x p1 p2 v538 v562 v568 (v596 + v602)) [(.int (2 : Int32)), (.int (v596 + v602))]) _
                refine XS.icmpYes X661.here hx rfl (pc0 := 154) (pc' := 168) rfl (hb hby d21_154) rfl (teq hc665).1 (by decide) (by decide) ?_
                show Sp p e below T661 (mkF m 168 (lt24 x p1 p2 v538 v562 v568 (v596 + v602)) []) _
                refine XS.iconst X661.here hx rfl (hb hby d21_168) ?_
                show Sp p e below T661 (mkF m 169 (lt24 x p1 p2 v538 v562 v568 (v596 + v602)) [(.int (1 : Int32))]) _
                refine XS.goto X661.here hx rfl (pc0 := 169) (pc' := 173) rfl (hb hby d21_169) (by decide) (by decide) ?_
                show Sp p e below T661 (mkF m 173 (lt24 x p1 p2 v538 v562 v568 (v596 + v602)) [(.int (1 : Int32))]) _
                exact retN X661 hx (t := .boolean) Bd.returns (by simp) (hb hby d21_173) hr
              · show Q21 Z n0 ex x A K S0 nc _ _ _ T661.heap _
                rw [e661]
                exact ⟨rfl, N659, O659, B659⟩
            · rw [own_eqF hc665] at hf660
              obtain ⟨v666, M666, hc666, hf667⟩ := own_bnd hf660
              clear hf660
              obtain ⟨cq666, q666, q666'⟩ := B659.exa.cell
              obtain ⟨_, _, ⟨T666, L666, k666, n666⟩, -, X666, ⟨Lc666, hQ666, l666, y666, z666⟩, st666⟩ := X661.privateBack hx (y := Y20) hown (mvT hZ (hw _ (tk 102 rfl))) (mvT hZ (hw _ (tk 103 rfl))) (own_selP rfl (mvT hZ (hw _ (tk 1 rfl))) (Cond.privateMethod_at (mvP hZ (hw _ (tk 104 rfl)) (args := #[]))) (mvT hZ (hw _ (tk 103 rfl))) (by decide)) (Cond.privateMethod_at (mvP hZ (hw _ (tk 104 rfl)) (args := #[]))) (mvT hZ (hw _ (tk 105 rfl))) (by decide) (backOf (W := 0) (rm16 l Z a0 hw [] hSl ex x A K S0 nc M659 v562 v568 v666 M666 T659.heap n0 O659 B659 hc666) hZ (hw _ (tk 105 rfl)) (hw _ (tk 2 rfl)) (by decide) (by decide)) (g := (mkF m 162 (lt24 x p1 p2 v538 v562 v568 (v596 + v602)) [(.int v568), (.int v562), (.ref x)])) rfl (by rw [hml]; rfl) (Steps.refl _) (a := x) (by rw [e661]; exact q666) q666' (argsL := [(.int v562), (.int v568)]) (rest := []) (lenOf pd_5 rfl) rfl (by show 2 * 0 + _ ≤ _; exact Nat.le_of_eq rfl) (hb hby d21_162) (fun _ _ => ⟨rfl, e661, (by decide : 0 + 0 ≤ _), (by decide : 0 + 0 ≤ _)⟩)
              dsimp only [Pt.U, Pt.locs, Pt.cells, Pt.slots] at X666 l666 y666 z666 st666 hQ666
              rw [l666, y666, z666] at X666
              obtain ⟨rv666, N666q, O666, B666⟩ := hQ666
              subst rv666
              have N666 := Fr.app N659 N666q
              have pre668 : Cm p e below E0 (T666.setTop (mkF m 165 (lt24 x p1 p2 v538 v562 v568 (v596 + v602)) [(.int v666)])) := fun t kt => by
                refine pre664 t ?_
                show Sp p e below T661 (mkF m 154 (lt24 x p1 p2 v538 v562 v568 (v596 + v602)) [(.int (2 : Int32)), (.int (v596 + v602))]) _
                refine XS.icmpNo X661.here hx rfl (hb hby d21_154) rfl (feq hc665).1 ?_
                show Sp p e below T661 (mkF m 157 (lt24 x p1 p2 v538 v562 v568 (v596 + v602)) []) _
                refine XS.aloadN X661.here hx rfl (hb hby d21_157) rfl rfl ?_
                refine XS.iload X661.here hx rfl (hb hby d21_158) rfl ?_
                show Sp p e below T661 (mkF m 160 (lt24 x p1 p2 v538 v562 v568 (v596 + v602)) [(.int v562), (.ref x)]) _
                refine XS.iload X661.here hx rfl (hb hby d21_160) rfl ?_
                show Sp p e below T661 (mkF m 162 (lt24 x p1 p2 v538 v562 v568 (v596 + v602)) [(.int v568), (.int v562), (.ref x)]) _
                refine st666.trans ?_
                show Sp p e below T666 (mkF m 165 (lt24 x p1 p2 v538 v562 v568 (v596 + v602)) [(.int v666)]) _
                exact kt
              by_cases hc669 : v666 = (0 : Int32)
              · rw [own_eqT hc669] at hf667
                obtain ⟨rfl, rfl⟩ := own_ret hf667
                obtain ⟨fs, hr, hrun, hended, hW, hsame⟩ := X666.leave (v := some (.int (0 : Int32))) (fun h => by rw [Bd.returns] at h; cases h) (BodyLoose.notSynchronized Bd)
                refine hno ⟨_, _, pre668 _ ?_, hrun, hended, _, _, rfl, ?_, ⟨_, rfl⟩, hW, hsame.mono (by decide) (by decide)⟩
                · show Sp p e below T666 (mkF m 165 (lt24 x p1 p2 v538 v562 v568 (v596 + v602)) [(.int v666)]) _
                  refine XS.ifYes X666.here hx rfl (pc0 := 165) (pc' := 172) rfl (hb hby d21_165) rfl ((if0 _ _).trans (teq hc669).1) (by decide) (by decide) ?_
                  show Sp p e below T666 (mkF m 172 (lt24 x p1 p2 v538 v562 v568 (v596 + v602)) []) _
                  refine XS.iconst X666.here hx rfl (hb hby d21_172) ?_
                  show Sp p e below T666 (mkF m 173 (lt24 x p1 p2 v538 v562 v568 (v596 + v602)) [(.int (0 : Int32))]) _
                  exact retN X666 hx (t := .boolean) Bd.returns (by simp) (hb hby d21_173) hr
                · show Q21 Z n0 ex x A K S0 nc _ _ _ T666.heap _
                  exact ⟨rfl, N666, O666, B666⟩
              · rw [own_eqF hc669] at hf667
                obtain ⟨rfl, rfl⟩ := own_ret hf667
                obtain ⟨fs, hr, hrun, hended, hW, hsame⟩ := X666.leave (v := some (.int (1 : Int32))) (fun h => by rw [Bd.returns] at h; cases h) (BodyLoose.notSynchronized Bd)
                refine hno ⟨_, _, pre668 _ ?_, hrun, hended, _, _, rfl, ?_, ⟨_, rfl⟩, hW, hsame.mono (by decide) (by decide)⟩
                · show Sp p e below T666 (mkF m 165 (lt24 x p1 p2 v538 v562 v568 (v596 + v602)) [(.int v666)]) _
                  refine XS.ifNo X666.here hx rfl (hb hby d21_165) rfl ((if0 _ _).trans (feq hc669).1) ?_
                  show Sp p e below T666 (mkF m 168 (lt24 x p1 p2 v538 v562 v568 (v596 + v602)) []) _
                  refine XS.iconst X666.here hx rfl (hb hby d21_168) ?_
                  show Sp p e below T666 (mkF m 169 (lt24 x p1 p2 v538 v562 v568 (v596 + v602)) [(.int (1 : Int32))]) _
                  refine XS.goto X666.here hx rfl (pc0 := 169) (pc' := 173) rfl (hb hby d21_169) (by decide) (by decide) ?_
                  show Sp p e below T666 (mkF m 173 (lt24 x p1 p2 v538 v562 v568 (v596 + v602)) [(.int (1 : Int32))]) _
                  exact retN X666 hx (t := .boolean) Bd.returns (by simp) (hb hby d21_173) hr
                · show Q21 Z n0 ex x A K S0 nc _ _ _ T666.heap _
                  exact ⟨rfl, N666, O666, B666⟩
  · rw [own_eqF hc541] at hf539
    have pre670 : Cm p e below E0 (T531.setTop (mkF m 15 (lt21 x p1 p2 v538) [(.int (1 : Int32)), (.int v538)])) := fun t kt => by
      refine pre540 t ?_
      show Sp p e below T531 (mkF m 10 (lt21 x p1 p2 v538) [(.int v538)]) _
      refine XS.ifNo X531.here hx rfl (hb hby d21_10) rfl ((if0 _ _).trans (feq hc541).1) ?_
      show Sp p e below T531 (mkF m 13 (lt21 x p1 p2 v538) []) _
      refine XS.iloadN X531.here hx rfl (hb hby d21_13) rfl ?_
      refine XS.iconst X531.here hx rfl (hb hby d21_14) ?_
      show Sp p e below T531 (mkF m 15 (lt21 x p1 p2 v538) [(.int (1 : Int32)), (.int v538)]) _
      exact kt
    by_cases hc671 : v538 = (1 : Int32)
    · rw [own_eqT hc671] at hf539
      obtain ⟨rfl, rfl⟩ := own_ret hf539
      obtain ⟨fs, hr, hrun, hended, hW, hsame⟩ := X531.leave (v := some (.int (1 : Int32))) (fun h => by rw [Bd.returns] at h; cases h) (BodyLoose.notSynchronized Bd)
      refine hno ⟨_, _, pre670 _ ?_, hrun, hended, _, _, rfl, ?_, ⟨_, rfl⟩, hW, hsame.mono (by decide) (by decide)⟩
      · show Sp p e below T531 (mkF m 15 (lt21 x p1 p2 v538) [(.int (1 : Int32)), (.int v538)]) _
        refine XS.icmpNo X531.here hx rfl (hb hby d21_15) rfl (teq hc671).2 ?_
        show Sp p e below T531 (mkF m 18 (lt21 x p1 p2 v538) []) _
        refine XS.iconst X531.here hx rfl (hb hby d21_18) ?_
        show Sp p e below T531 (mkF m 19 (lt21 x p1 p2 v538) [(.int (1 : Int32))]) _
        refine XS.goto X531.here hx rfl (pc0 := 19) (pc' := 23) rfl (hb hby d21_19) (by decide) (by decide) ?_
        show Sp p e below T531 (mkF m 23 (lt21 x p1 p2 v538) [(.int (1 : Int32))]) _
        exact retN X531 hx (t := .boolean) Bd.returns (by simp) (hb hby d21_23) hr
      · show Q21 Z n0 ex x A K S0 nc _ _ _ T531.heap _
        rw [e531]
        exact ⟨rfl, N0, O0, B0⟩
    · rw [own_eqF hc671] at hf539
      obtain ⟨rfl, rfl⟩ := own_ret hf539
      obtain ⟨fs, hr, hrun, hended, hW, hsame⟩ := X531.leave (v := some (.int (0 : Int32))) (fun h => by rw [Bd.returns] at h; cases h) (BodyLoose.notSynchronized Bd)
      refine hno ⟨_, _, pre670 _ ?_, hrun, hended, _, _, rfl, ?_, ⟨_, rfl⟩, hW, hsame.mono (by decide) (by decide)⟩
      · show Sp p e below T531 (mkF m 15 (lt21 x p1 p2 v538) [(.int (1 : Int32)), (.int v538)]) _
        refine XS.icmpYes X531.here hx rfl (pc0 := 15) (pc' := 22) rfl (hb hby d21_15) rfl (feq hc671).2 (by decide) (by decide) ?_
        show Sp p e below T531 (mkF m 22 (lt21 x p1 p2 v538) []) _
        refine XS.iconst X531.here hx rfl (hb hby d21_22) ?_
        show Sp p e below T531 (mkF m 23 (lt21 x p1 p2 v538) [(.int (0 : Int32))]) _
        exact retN X531 hx (t := .boolean) Bd.returns (by simp) (hb hby d21_23) hr
      · show Q21 Z n0 ex x A K S0 nc _ _ _ T531.heap _
        rw [e531]
        exact ⟨rfl, N0, O0, B0⟩
theorem pn_20 : plainName "com/example/onetree/onetree/EdgeStates" = true := by first | (simp [plainName, overriddenIn]; done) | decide +kernel
def lp20 (nc : Nat) : Nat → MM → Int32 → Int32 → Int32 → Option (Int32 × MM)
  | 0, _, _, _, _ => none
  | k + 1, M, al1, al2, al3 => cnd (ltB al3 (Int32.ofNat nc)) (cnd (eqB al3 al1) (lp20 nc k M al1 al2 (al3 + (1 : Int32))) (gd (inr al1 nc) (gd (inr al3 nc) (nai (ld M (14 + ix al1) (ix al3)) fun v525 => cnd (eqB v525 (0 : Int32)) (cnd (eqB al2 (0 : Int32)) (bnd (f21 nc M al1 al3) fun v672 M672 => cnd (eqB v672 (0 : Int32)) (some ((0 : Int32), M672)) (lp20 nc k M672 al1 al2 (al3 + (1 : Int32)))) (bnd (f16 nc M al1 al3) fun v677 M677 => cnd (eqB v677 (0 : Int32)) (some ((0 : Int32), M677)) (lp20 nc k M677 al1 al2 (al3 + (1 : Int32))))) (lp20 nc k M al1 al2 (al3 + (1 : Int32))))))) (some ((1 : Int32), M))
def f20 (nc : Nat) (M : MM) (p1 : Int32) : Option (Int32 × MM) := gd (inr p1 (lnR nc 1)) (nai (ld M 1 (ix p1)) fun v486 => cnd (ltB v486 (2 : Int32)) (some ((0 : Int32), M)) (gd (inr p1 (lnR nc 0)) (nai (ld M 0 (ix p1)) fun v494 => cnd (eqB v494 (2 : Int32)) (nai (ld M 1 (ix p1)) fun v500 => cnd (eqB v500 (2 : Int32)) (some ((1 : Int32), M)) (lp20 nc 200 M p1 (1 : Int32) (0 : Int32))) (nai (ld M 1 (ix p1)) fun v507 => cnd (eqB v507 (2 : Int32)) (lp20 nc 200 M p1 (0 : Int32) (0 : Int32)) (some ((1 : Int32), M))))))
theorem ef_20 (m : MethodId) (x : Addr) (A : Nat → Addr) (p1 : Int32) : entryFrame m #[(.ref x), (.int p1)] 5 = mkF m 0 #[.val (.ref x), .val (.int p1), .unset, .unset, .unset] [] := by first | (simp [entryFrame, mkF, argsToLocals, Value.category]; done) | rfl
def Q20 (Z : State) (n0 : Nat) (ex : Bool) (x : Addr) (A : Nat → Addr) (K : Nat → ClassId) (S0 : Addr) (nc : Nat) (rv : Int32) (M' : MM) (v : Option Value) (h : Heap) (L : List Loc) : Prop := v = some (.int rv) ∧ Fr n0 L ∧ Old Z n0 h ∧ EB Z n0 ex h x A K S0 nc M'
set_option maxRecDepth 65536 in
set_option maxHeartbeats 40000000 in
theorem rm20 (l : Launch) (Z : State) (a0 : Array Value) (hw : ∀ d ∈ tables_1, d.before a0 Z = true) (ws : List Jvm.Cond) (hSl : SlotsOK Z) (ex : Bool) (x : Addr) (A : Nat → Addr) (K : Nat → ClassId) (S0 : Addr) (nc : Nat) (M : MM) (p1 : Int32) (rv : Int32) (M' : MM) (h0 : Heap) (n0 : Nat) (O0 : Old Z n0 h0) (B0 : EB Z n0 ex h0 x A K S0 nc M) (hf : f20 nc M p1 = some (rv, M')) :
    MetFree l Y34 (head1 (Jvm.Cond.code Y34 prog_7_method_24_code 5 (some .boolean) :: ws) ({ frames := 3, cells := 0, slots := 0, locals := 48 } : Room)) (fun a U => a = #[(.ref x), (.int p1)] ∧ Z.Warmed39 U.vm ∧ U.heap = h0) (fun _ _ _ _ _ => True) (fun _ U o U' => ∃ v L, o = .returned v ∧ Q20 Z n0 ex x A K S0 nc rv M' v U'.heap L ∧ FrameEnd U o U' L ({ frames := 3, cells := 0, slots := 0, locals := 48 } : Room).cells ({ frames := 3, cells := 0, slots := 0, locals := 48 } : Room).slots) := by
  refine MetFree.of_bodySF (plainFor_of_name pn_20) hisR ?_
  intro p e s m args below meth c s₁ Bd hml0 hP hK
  obtain ⟨rfl, hZ, hh⟩ := hP
  have hx := Bd.exec
  have hby := Bd.bytes
  have hml : c.maxLocals = 5 := hml0
  have hown : s.vm.findClass "com/example/onetree/onetree/EdgeStates" = some m.cls := findClass_of_methodNamed Bd.named
  have X0 : Stand p l e ({ frames := 3, cells := 0, slots := 0, locals := 48 } : Room) s m #[(.ref x), (.int p1)] below meth c s₁ [] 0 0 := Stand.of_body Bd
  have e0 : s₁.heap = h0 := by rw [← hh, Bd.state]; rfl
  have N0 := Fr.nil n0
  have pre0 : ∀ t, Steps p.tables e below (s₁.setTop (mkF m 0 #[.val (.ref x), .val (.int p1), .unset, .unset, .unset] [])) t → Steps p.tables e below (s₁.setTop (entryFrame m #[(.ref x), (.int p1)] 5)) t := fun t k => castTop (ef_20 m x A p1) k
  generalize hE0 : s₁.setTop (entryFrame m #[(.ref x), (.int p1)] 5) = E0 at pre0 ⊢
  apply Classical.byContradiction
  intro hno
  unfold f20 at hf
  have lp : ∀ k : Nat, (∀ (M : MM) (al1 : Int32) (al2 : Int32) (al3 : Int32) (s4 : Slot) (_ : s4 = .unset ∨ ∃ w, s4 = .val w ∧ w.category = 1) (T0 : State) (L1 : List Loc) (h1 : Heap), Stand p l e ({ frames := 3, cells := 0, slots := 0, locals := 48 } : Room) s m #[(.ref x), (.int p1)] below meth c T0 L1 0 0 → T0.heap = h1 → Old Z n0 h1 → Fr n0 L1 → EB Z n0 ex h1 x A K S0 nc M → lp20 nc k M al1 al2 al3 = some (rv, M') → Cm p e below E0 (T0.setTop (mkF m 51 (lt19 x al1 al2 al3 s4) [])) → False) := by
    intro k
    induction k with
    | zero => exact fun M al1 al2 al3 s4 u4 T0 L1 h1 X1 e1 O1 N1 B1 hf pre1 => (by rw [lp20] at hf; cases hf)
    | succ k ih =>
      refine fun M al1 al2 al3 s4 u4 T0 L1 h1 X1 e1 O1 N1 B1 hf pre1 => ?_
      · rw [lp20] at hf
        obtain ⟨T512, X512, e512, st512⟩ := getF X1 hx hZ hown (host := "") (Or.inl (hw _ (tk 12 rfl))) Via.refl e1 (B1.fld 0 rfl) (g := (mkF m 53 (lt19 x al1 al2 al3 s4) [(.ref x), (.int al3)])) rfl rfl (hb hby d20_53)
        have pre513 : Cm p e below E0 (T512.setTop (mkF m 56 (lt19 x al1 al2 al3 s4) [(.int (Int32.ofNat nc)), (.int al3)])) := fun t kt => by
          refine pre1 t ?_
          show Sp p e below T0 (mkF m 51 (lt19 x al1 al2 al3 s4) []) _
          refine XS.iloadN X1.here hx rfl (hb hby d20_51) rfl ?_
          refine XS.aloadN X1.here hx rfl (hb hby d20_52) rfl rfl ?_
          show Sp p e below T0 (mkF m 53 (lt19 x al1 al2 al3 s4) [(.ref x), (.int al3)]) _
          refine st512 _ ?_
          show Sp p e below T512 (mkF m 56 (lt19 x al1 al2 al3 s4) [(.int (Int32.ofNat nc)), (.int al3)]) _
          exact kt
        by_cases hc514 : al3 < (Int32.ofNat nc)
        · rw [own_ltT hc514] at hf
          have pre515 : Cm p e below E0 (T512.setTop (mkF m 61 (lt19 x al1 al2 al3 s4) [(.int al1), (.int al3)])) := fun t kt => by
            refine pre513 t ?_
            show Sp p e below T512 (mkF m 56 (lt19 x al1 al2 al3 s4) [(.int (Int32.ofNat nc)), (.int al3)]) _
            refine XS.icmpNo X512.here hx rfl (hb hby d20_56) rfl (tlt hc514).2.1 ?_
            show Sp p e below T512 (mkF m 59 (lt19 x al1 al2 al3 s4) []) _
            refine XS.iloadN X512.here hx rfl (hb hby d20_59) rfl ?_
            refine XS.iloadN X512.here hx rfl (hb hby d20_60) rfl ?_
            show Sp p e below T512 (mkF m 61 (lt19 x al1 al2 al3 s4) [(.int al1), (.int al3)]) _
            exact kt
          by_cases hc516 : al3 = al1
          · rw [own_eqT hc516] at hf
            have pre517 : Cm p e below E0 (T512.setTop (mkF m 51 (lt19 x al1 al2 (al3 + (1 : Int32)) s4) [])) := fun t kt => by
              refine pre515 t ?_
              show Sp p e below T512 (mkF m 61 (lt19 x al1 al2 al3 s4) [(.int al1), (.int al3)]) _
              refine XS.icmpYes X512.here hx rfl (pc0 := 61) (pc' := 103) rfl (hb hby d20_61) rfl (teq hc516).1 (by decide) (by decide) ?_
              show Sp p e below T512 (mkF m 103 (lt19 x al1 al2 al3 s4) []) _
              refine XS.iinc X512.here hx rfl (hb hby d20_103) rfl (l' := (lt19 x al1 al2 (al3 + (1 : Int32)) s4)) rfl ?_
              show Sp p e below T512 (mkF m 106 (lt19 x al1 al2 (al3 + (1 : Int32)) s4) []) _
              refine XS.goto X512.here hx rfl (pc0 := 106) (pc' := 51) rfl (hb hby d20_106) (by decide) (by decide) ?_
              show Sp p e below T512 (mkF m 51 (lt19 x al1 al2 (al3 + (1 : Int32)) s4) []) _
              exact kt
            exact ih M al1 al2 (al3 + (1 : Int32)) s4 u4 T512 _ _ X512 e512 O1 N1 B1 hf pre517
          · rw [own_eqF hc516] at hf
            obtain ⟨T518, X518, e518, st518⟩ := getF X512 hx hZ hown (host := "") (Or.inl (hw _ (tk 21 rfl))) Via.refl e512 (B1.fld 1 rfl) (g := (mkF m 65 (lt19 x al1 al2 al3 s4) [(.ref x)])) rfl rfl (hb hby d20_65)
            obtain ⟨g519, hf520⟩ := own_gd hf
            clear hf
            obtain ⟨cl521, Ar521, hin521, hat521⟩ := B1.getS g519
            obtain ⟨g522, hf523⟩ := own_gd hf520
            clear hf520
            obtain ⟨v525, d_v525, hf526⟩ := own_nai hf523
            clear hf523
            obtain ⟨cl524, Ar524, hin524, hat524⟩ := B1.get (14 + ix al1) (B1.isS g519) (own_gS g522) d_v525
            have At524 := own_tyA Ar524
            have pre527 : Cm p e below E0 (T518.setTop (mkF m 72 (lt19 x al1 al2 al3 s4) [(.int v525)])) := fun t kt => by
              refine pre515 t ?_
              show Sp p e below T512 (mkF m 61 (lt19 x al1 al2 al3 s4) [(.int al1), (.int al3)]) _
              refine XS.icmpNo X512.here hx rfl (hb hby d20_61) rfl (feq hc516).1 ?_
              show Sp p e below T512 (mkF m 64 (lt19 x al1 al2 al3 s4) []) _
              refine XS.aloadN X512.here hx rfl (hb hby d20_64) rfl rfl ?_
              show Sp p e below T512 (mkF m 65 (lt19 x al1 al2 al3 s4) [(.ref x)]) _
              refine st518 _ ?_
              show Sp p e below T518 (mkF m 68 (lt19 x al1 al2 al3 s4) [(.ref S0)]) _
              refine XS.iloadN X518.here hx rfl (hb hby d20_68) rfl ?_
              show Sp p e below T518 (mkF m 69 (lt19 x al1 al2 al3 s4) [(.int al1), (.ref S0)]) _
              refine X518.aaload hx (j := al1) (v := .ref (A (14 + ix al1))) (by rw [e518]; exact Ar521.1) (State.isArrayOf_alike hZ.alike Ar521.2.1) rfl Ar521.2.2 hin521 hat521 (g := (mkF m 69 (lt19 x al1 al2 al3 s4) [(.int al1), (.ref S0)])) rfl rfl (hb hby d20_69) _ ?_
              show Sp p e below T518 (mkF m 70 (lt19 x al1 al2 al3 s4) [(.ref (A (14 + ix al1)))]) _
              refine XS.iloadN X518.here hx rfl (hb hby d20_70) rfl ?_
              show Sp p e below T518 (mkF m 71 (lt19 x al1 al2 al3 s4) [(.int al3), (.ref (A (14 + ix al1)))]) _
              refine X518.baloadBytes hx (j := al3) (v := (.int v525)) (by rw [e518]; exact Ar524.1) (State.isArrayOf_alike hZ.alike At524.2.1) At524.2.2 hin524 hat524 (g := (mkF m 71 (lt19 x al1 al2 al3 s4) [(.int al3), (.ref (A (14 + ix al1)))])) rfl rfl (hb hby d20_71) _ ?_
              show Sp p e below T518 (mkF m 72 (lt19 x al1 al2 al3 s4) [(.int v525)]) _
              exact kt
            by_cases hc528 : v525 = (0 : Int32)
            · rw [own_eqT hc528] at hf526
              have pre529 : Cm p e below E0 (T518.setTop (mkF m 76 (lt19 x al1 al2 al3 s4) [(.int al2)])) := fun t kt => by
                refine pre527 t ?_
                show Sp p e below T518 (mkF m 72 (lt19 x al1 al2 al3 s4) [(.int v525)]) _
                refine XS.ifNo X518.here hx rfl (hb hby d20_72) rfl ((if0 _ _).trans (teq hc528).2) ?_
                show Sp p e below T518 (mkF m 75 (lt19 x al1 al2 al3 s4) []) _
                refine XS.iloadN X518.here hx rfl (hb hby d20_75) rfl ?_
                show Sp p e below T518 (mkF m 76 (lt19 x al1 al2 al3 s4) [(.int al2)]) _
                exact kt
              by_cases hc530 : al2 = (0 : Int32)
              · rw [own_eqT hc530] at hf526
                obtain ⟨v672, M672, hc672, hf673⟩ := own_bnd hf526
                clear hf526
                obtain ⟨cq672, q672, q672'⟩ := B1.exa.cell
                obtain ⟨_, _, ⟨T672, L672, k672, n672⟩, -, X672, ⟨Lc672, hQ672, l672, y672, z672⟩, st672⟩ := X518.privateBack hx (y := Y32) hown (mvT hZ (hw _ (tk 126 rfl))) (mvT hZ (hw _ (tk 127 rfl))) (own_selP rfl (mvT hZ (hw _ (tk 1 rfl))) (Cond.privateMethod_at (mvP hZ (hw _ (tk 128 rfl)) (args := #[]))) (mvT hZ (hw _ (tk 127 rfl))) (by decide)) (Cond.privateMethod_at (mvP hZ (hw _ (tk 128 rfl)) (args := #[]))) (mvT hZ (hw _ (tk 129 rfl))) (by decide) (backOf (W := 0) (rm21 l Z a0 hw [] hSl ex x A K S0 nc M al1 al3 v672 M672 h1 n0 O1 B1 hc672) hZ (hw _ (tk 129 rfl)) (hw _ (tk 2 rfl)) (by decide) (by decide)) (g := (mkF m 91 (lt19 x al1 al2 al3 s4) [(.int al3), (.int al1), (.ref x)])) rfl (by rw [hml]; rfl) (Steps.refl _) (a := x) (by rw [e518]; exact q672) q672' (argsL := [(.int al1), (.int al3)]) (rest := []) (lenOf pd_5 rfl) rfl (by show 2 * 0 + _ ≤ _; exact Nat.le_of_eq rfl) (hb hby d20_91) (fun _ _ => ⟨rfl, e518, (by decide : 0 + 0 ≤ _), (by decide : 0 + 0 ≤ _)⟩)
                dsimp only [Pt.U, Pt.locs, Pt.cells, Pt.slots] at X672 l672 y672 z672 st672 hQ672
                rw [l672, y672, z672] at X672
                obtain ⟨rv672, N672q, O672, B672⟩ := hQ672
                subst rv672
                have N672 := Fr.app N1 N672q
                have pre674 : Cm p e below E0 (T672.setTop (mkF m 98 (lt25 x al1 al2 al3 v672) [(.int v672)])) := fun t kt => by
                  refine pre529 t ?_
                  show Sp p e below T518 (mkF m 76 (lt19 x al1 al2 al3 s4) [(.int al2)]) _
                  refine XS.ifYes X518.here hx rfl (pc0 := 76) (pc' := 88) rfl (hb hby d20_76) rfl ((if0 _ _).trans (teq hc530).1) (by decide) (by decide) ?_
                  show Sp p e below T518 (mkF m 88 (lt19 x al1 al2 al3 s4) []) _
                  refine XS.aloadN X518.here hx rfl (hb hby d20_88) rfl rfl ?_
                  refine XS.iloadN X518.here hx rfl (hb hby d20_89) rfl ?_
                  show Sp p e below T518 (mkF m 90 (lt19 x al1 al2 al3 s4) [(.int al1), (.ref x)]) _
                  refine XS.iloadN X518.here hx rfl (hb hby d20_90) rfl ?_
                  show Sp p e below T518 (mkF m 91 (lt19 x al1 al2 al3 s4) [(.int al3), (.int al1), (.ref x)]) _
                  refine st672.trans ?_
                  show Sp p e below T672 (mkF m 94 (lt19 x al1 al2 al3 s4) [(.int v672)]) _
                  refine XS.istoreS X672.here hx rfl (hb hby d20_94) rfl rfl u4 ?_
                  refine XS.iload X672.here hx rfl (hb hby d20_96) rfl ?_
                  show Sp p e below T672 (mkF m 98 (lt25 x al1 al2 al3 v672) [(.int v672)]) _
                  exact kt
                by_cases hc675 : v672 = (0 : Int32)
                · rw [own_eqT hc675] at hf673
                  obtain ⟨rfl, rfl⟩ := own_ret hf673
                  obtain ⟨fs, hr, hrun, hended, hW, hsame⟩ := X672.leave (v := some (.int (0 : Int32))) (fun h => by rw [Bd.returns] at h; cases h) (BodyLoose.notSynchronized Bd)
                  refine hno ⟨_, _, pre674 _ ?_, hrun, hended, _, _, rfl, ?_, ⟨_, rfl⟩, hW, hsame.mono (by decide) (by decide)⟩
                  · show Sp p e below T672 (mkF m 98 (lt25 x al1 al2 al3 v672) [(.int v672)]) _
                    refine XS.ifNo X672.here hx rfl (hb hby d20_98) rfl ((if0 _ _).trans (teq hc675).2) ?_
                    show Sp p e below T672 (mkF m 101 (lt25 x al1 al2 al3 v672) []) _
                    refine XS.iconst X672.here hx rfl (hb hby d20_101) ?_
                    show Sp p e below T672 (mkF m 102 (lt25 x al1 al2 al3 v672) [(.int (0 : Int32))]) _
                    exact retN X672 hx (t := .boolean) Bd.returns (by simp) (hb hby d20_102) hr
                  · show Q20 Z n0 ex x A K S0 nc _ _ _ T672.heap _
                    exact ⟨rfl, N672, O672, B672⟩
                · rw [own_eqF hc675] at hf673
                  have pre676 : Cm p e below E0 (T672.setTop (mkF m 51 (lt25 x al1 al2 (al3 + (1 : Int32)) v672) [])) := fun t kt => by
                    refine pre674 t ?_
                    show Sp p e below T672 (mkF m 98 (lt25 x al1 al2 al3 v672) [(.int v672)]) _
                    refine XS.ifYes X672.here hx rfl (pc0 := 98) (pc' := 103) rfl (hb hby d20_98) rfl ((if0 _ _).trans (feq hc675).2) (by decide) (by decide) ?_
                    show Sp p e below T672 (mkF m 103 (lt25 x al1 al2 al3 v672) []) _
                    refine XS.iinc X672.here hx rfl (hb hby d20_103) rfl (l' := (lt25 x al1 al2 (al3 + (1 : Int32)) v672)) rfl ?_
                    show Sp p e below T672 (mkF m 106 (lt25 x al1 al2 (al3 + (1 : Int32)) v672) []) _
                    refine XS.goto X672.here hx rfl (pc0 := 106) (pc' := 51) rfl (hb hby d20_106) (by decide) (by decide) ?_
                    show Sp p e below T672 (mkF m 51 (lt25 x al1 al2 (al3 + (1 : Int32)) v672) []) _
                    exact kt
                  exact ih M672 al1 al2 (al3 + (1 : Int32)) (.val (.int v672)) (Or.inr ⟨_, rfl, rfl⟩) T672 _ _ X672 rfl O672 N672 B672 hf673 pre676
              · rw [own_eqF hc530] at hf526
                obtain ⟨v677, M677, hc677, hf678⟩ := own_bnd hf526
                clear hf526
                obtain ⟨cq677, q677, q677'⟩ := B1.exa.cell
                obtain ⟨_, _, ⟨T677, L677, k677, n677⟩, -, X677, ⟨Lc677, hQ677, l677, y677, z677⟩, st677⟩ := X518.privateBack hx (y := Y20) hown (mvT hZ (hw _ (tk 102 rfl))) (mvT hZ (hw _ (tk 103 rfl))) (own_selP rfl (mvT hZ (hw _ (tk 1 rfl))) (Cond.privateMethod_at (mvP hZ (hw _ (tk 104 rfl)) (args := #[]))) (mvT hZ (hw _ (tk 103 rfl))) (by decide)) (Cond.privateMethod_at (mvP hZ (hw _ (tk 104 rfl)) (args := #[]))) (mvT hZ (hw _ (tk 105 rfl))) (by decide) (backOf (W := 0) (rm16 l Z a0 hw [] hSl ex x A K S0 nc M al1 al3 v677 M677 h1 n0 O1 B1 hc677) hZ (hw _ (tk 105 rfl)) (hw _ (tk 2 rfl)) (by decide) (by decide)) (g := (mkF m 82 (lt19 x al1 al2 al3 s4) [(.int al3), (.int al1), (.ref x)])) rfl (by rw [hml]; rfl) (Steps.refl _) (a := x) (by rw [e518]; exact q677) q677' (argsL := [(.int al1), (.int al3)]) (rest := []) (lenOf pd_5 rfl) rfl (by show 2 * 0 + _ ≤ _; exact Nat.le_of_eq rfl) (hb hby d20_82) (fun _ _ => ⟨rfl, e518, (by decide : 0 + 0 ≤ _), (by decide : 0 + 0 ≤ _)⟩)
                dsimp only [Pt.U, Pt.locs, Pt.cells, Pt.slots] at X677 l677 y677 z677 st677 hQ677
                rw [l677, y677, z677] at X677
                obtain ⟨rv677, N677q, O677, B677⟩ := hQ677
                subst rv677
                have N677 := Fr.app N1 N677q
                have pre679 : Cm p e below E0 (T677.setTop (mkF m 98 (lt25 x al1 al2 al3 v677) [(.int v677)])) := fun t kt => by
                  refine pre529 t ?_
                  show Sp p e below T518 (mkF m 76 (lt19 x al1 al2 al3 s4) [(.int al2)]) _
                  refine XS.ifNo X518.here hx rfl (hb hby d20_76) rfl ((if0 _ _).trans (feq hc530).1) ?_
                  show Sp p e below T518 (mkF m 79 (lt19 x al1 al2 al3 s4) []) _
                  refine XS.aloadN X518.here hx rfl (hb hby d20_79) rfl rfl ?_
                  refine XS.iloadN X518.here hx rfl (hb hby d20_80) rfl ?_
                  show Sp p e below T518 (mkF m 81 (lt19 x al1 al2 al3 s4) [(.int al1), (.ref x)]) _
                  refine XS.iloadN X518.here hx rfl (hb hby d20_81) rfl ?_
                  show Sp p e below T518 (mkF m 82 (lt19 x al1 al2 al3 s4) [(.int al3), (.int al1), (.ref x)]) _
                  refine st677.trans ?_
                  show Sp p e below T677 (mkF m 85 (lt19 x al1 al2 al3 s4) [(.int v677)]) _
                  refine XS.goto X677.here hx rfl (pc0 := 85) (pc' := 94) rfl (hb hby d20_85) (by decide) (by decide) ?_
                  show Sp p e below T677 (mkF m 94 (lt19 x al1 al2 al3 s4) [(.int v677)]) _
                  refine XS.istoreS X677.here hx rfl (hb hby d20_94) rfl rfl u4 ?_
                  refine XS.iload X677.here hx rfl (hb hby d20_96) rfl ?_
                  show Sp p e below T677 (mkF m 98 (lt25 x al1 al2 al3 v677) [(.int v677)]) _
                  exact kt
                by_cases hc680 : v677 = (0 : Int32)
                · rw [own_eqT hc680] at hf678
                  obtain ⟨rfl, rfl⟩ := own_ret hf678
                  obtain ⟨fs, hr, hrun, hended, hW, hsame⟩ := X677.leave (v := some (.int (0 : Int32))) (fun h => by rw [Bd.returns] at h; cases h) (BodyLoose.notSynchronized Bd)
                  refine hno ⟨_, _, pre679 _ ?_, hrun, hended, _, _, rfl, ?_, ⟨_, rfl⟩, hW, hsame.mono (by decide) (by decide)⟩
                  · show Sp p e below T677 (mkF m 98 (lt25 x al1 al2 al3 v677) [(.int v677)]) _
                    refine XS.ifNo X677.here hx rfl (hb hby d20_98) rfl ((if0 _ _).trans (teq hc680).2) ?_
                    show Sp p e below T677 (mkF m 101 (lt25 x al1 al2 al3 v677) []) _
                    refine XS.iconst X677.here hx rfl (hb hby d20_101) ?_
                    show Sp p e below T677 (mkF m 102 (lt25 x al1 al2 al3 v677) [(.int (0 : Int32))]) _
                    exact retN X677 hx (t := .boolean) Bd.returns (by simp) (hb hby d20_102) hr
                  · show Q20 Z n0 ex x A K S0 nc _ _ _ T677.heap _
                    exact ⟨rfl, N677, O677, B677⟩
                · rw [own_eqF hc680] at hf678
                  have pre681 : Cm p e below E0 (T677.setTop (mkF m 51 (lt25 x al1 al2 (al3 + (1 : Int32)) v677) [])) := fun t kt => by
                    refine pre679 t ?_
                    show Sp p e below T677 (mkF m 98 (lt25 x al1 al2 al3 v677) [(.int v677)]) _
                    refine XS.ifYes X677.here hx rfl (pc0 := 98) (pc' := 103) rfl (hb hby d20_98) rfl ((if0 _ _).trans (feq hc680).2) (by decide) (by decide) ?_
                    show Sp p e below T677 (mkF m 103 (lt25 x al1 al2 al3 v677) []) _
                    refine XS.iinc X677.here hx rfl (hb hby d20_103) rfl (l' := (lt25 x al1 al2 (al3 + (1 : Int32)) v677)) rfl ?_
                    show Sp p e below T677 (mkF m 106 (lt25 x al1 al2 (al3 + (1 : Int32)) v677) []) _
                    refine XS.goto X677.here hx rfl (pc0 := 106) (pc' := 51) rfl (hb hby d20_106) (by decide) (by decide) ?_
                    show Sp p e below T677 (mkF m 51 (lt25 x al1 al2 (al3 + (1 : Int32)) v677) []) _
                    exact kt
                  exact ih M677 al1 al2 (al3 + (1 : Int32)) (.val (.int v677)) (Or.inr ⟨_, rfl, rfl⟩) T677 _ _ X677 rfl O677 N677 B677 hf678 pre681
            · rw [own_eqF hc528] at hf526
              have pre682 : Cm p e below E0 (T518.setTop (mkF m 51 (lt19 x al1 al2 (al3 + (1 : Int32)) s4) [])) := fun t kt => by
                refine pre527 t ?_
                show Sp p e below T518 (mkF m 72 (lt19 x al1 al2 al3 s4) [(.int v525)]) _
                refine XS.ifYes X518.here hx rfl (pc0 := 72) (pc' := 103) rfl (hb hby d20_72) rfl ((if0 _ _).trans (feq hc528).2) (by decide) (by decide) ?_
                show Sp p e below T518 (mkF m 103 (lt19 x al1 al2 al3 s4) []) _
                refine XS.iinc X518.here hx rfl (hb hby d20_103) rfl (l' := (lt19 x al1 al2 (al3 + (1 : Int32)) s4)) rfl ?_
                show Sp p e below T518 (mkF m 106 (lt19 x al1 al2 (al3 + (1 : Int32)) s4) []) _
                refine XS.goto X518.here hx rfl (pc0 := 106) (pc' := 51) rfl (hb hby d20_106) (by decide) (by decide) ?_
                show Sp p e below T518 (mkF m 51 (lt19 x al1 al2 (al3 + (1 : Int32)) s4) []) _
                exact kt
              exact ih M al1 al2 (al3 + (1 : Int32)) s4 u4 T518 _ _ X518 e518 O1 N1 B1 hf526 pre682
        · rw [own_ltF hc514] at hf
          obtain ⟨rfl, rfl⟩ := own_ret hf
          obtain ⟨fs, hr, hrun, hended, hW, hsame⟩ := X512.leave (v := some (.int (1 : Int32))) (fun h => by rw [Bd.returns] at h; cases h) (BodyLoose.notSynchronized Bd)
          refine hno ⟨_, _, pre513 _ ?_, hrun, hended, _, _, rfl, ?_, ⟨_, rfl⟩, hW, hsame.mono (by decide) (by decide)⟩
          · show Sp p e below T512 (mkF m 56 (lt19 x al1 al2 al3 s4) [(.int (Int32.ofNat nc)), (.int al3)]) _
            refine XS.icmpYes X512.here hx rfl (pc0 := 56) (pc' := 109) rfl (hb hby d20_56) rfl (flt hc514).2.1 (by decide) (by decide) ?_
            show Sp p e below T512 (mkF m 109 (lt19 x al1 al2 al3 s4) []) _
            refine XS.iconst X512.here hx rfl (hb hby d20_109) ?_
            show Sp p e below T512 (mkF m 110 (lt19 x al1 al2 al3 s4) [(.int (1 : Int32))]) _
            exact retN X512 hx (t := .boolean) Bd.returns (by simp) (hb hby d20_110) hr
          · show Q20 Z n0 ex x A K S0 nc _ _ _ T512.heap _
            rw [e512]
            exact ⟨rfl, N1, O1, B1⟩
  obtain ⟨T482, X482, e482, st482⟩ := getF X0 hx hZ hown (host := "") (Or.inl (hw _ (tk 26 rfl))) Via.refl e0 (B0.fld 3 rfl) (g := (mkF m 1 (lt16 x p1) [(.ref x)])) rfl rfl (hb hby d20_1)
  obtain ⟨g483, hf484⟩ := own_gd hf
  clear hf
  obtain ⟨v486, d_v486, hf487⟩ := own_nai hf484
  clear hf484
  obtain ⟨cl485, Ar485, hin485, hat485⟩ := B0.get 1 (Or.inl (by decide)) g483 d_v486
  have At485 : Arr Z h0 (A 1) cl485 .int := Ar485
  have pre488 : Cm p e below E0 (T482.setTop (mkF m 7 (lt16 x p1) [(.int (2 : Int32)), (.int v486)])) := fun t kt => by
    refine pre0 t ?_
    show Sp p e below s₁ (mkF m 0 (lt16 x p1) []) _
    refine XS.aloadN X0.here hx rfl (hb hby d20_0) rfl rfl ?_
    show Sp p e below s₁ (mkF m 1 (lt16 x p1) [(.ref x)]) _
    refine st482 _ ?_
    show Sp p e below T482 (mkF m 4 (lt16 x p1) [(.ref (A 1))]) _
    refine XS.iloadN X482.here hx rfl (hb hby d20_4) rfl ?_
    show Sp p e below T482 (mkF m 5 (lt16 x p1) [(.int p1), (.ref (A 1))]) _
    refine X482.iaload hx (j := p1) (v := (.int v486)) (by rw [e482]; exact Ar485.1) (State.isArrayOf_alike hZ.alike At485.2.1) At485.2.2 hin485 hat485 (g := (mkF m 5 (lt16 x p1) [(.int p1), (.ref (A 1))])) rfl rfl (hb hby d20_5) _ ?_
    show Sp p e below T482 (mkF m 6 (lt16 x p1) [(.int v486)]) _
    refine XS.iconst X482.here hx rfl (hb hby d20_6) ?_
    show Sp p e below T482 (mkF m 7 (lt16 x p1) [(.int (2 : Int32)), (.int v486)]) _
    exact kt
  by_cases hc489 : v486 < (2 : Int32)
  · rw [own_ltT hc489] at hf487
    obtain ⟨rfl, rfl⟩ := own_ret hf487
    obtain ⟨fs, hr, hrun, hended, hW, hsame⟩ := X482.leave (v := some (.int (0 : Int32))) (fun h => by rw [Bd.returns] at h; cases h) (BodyLoose.notSynchronized Bd)
    refine hno ⟨_, _, pre488 _ ?_, hrun, hended, _, _, rfl, ?_, ⟨_, rfl⟩, hW, hsame.mono (by decide) (by decide)⟩
    · show Sp p e below T482 (mkF m 7 (lt16 x p1) [(.int (2 : Int32)), (.int v486)]) _
      refine XS.icmpNo X482.here hx rfl (hb hby d20_7) rfl (tlt hc489).2.1 ?_
      show Sp p e below T482 (mkF m 10 (lt16 x p1) []) _
      refine XS.iconst X482.here hx rfl (hb hby d20_10) ?_
      show Sp p e below T482 (mkF m 11 (lt16 x p1) [(.int (0 : Int32))]) _
      exact retN X482 hx (t := .boolean) Bd.returns (by simp) (hb hby d20_11) hr
    · show Q20 Z n0 ex x A K S0 nc _ _ _ T482.heap _
      rw [e482]
      exact ⟨rfl, N0, O0, B0⟩
  · rw [own_ltF hc489] at hf487
    obtain ⟨T490, X490, e490, st490⟩ := getF X482 hx hZ hown (host := "") (Or.inl (hw _ (tk 24 rfl))) Via.refl e482 (B0.fld 2 rfl) (g := (mkF m 13 (lt16 x p1) [(.ref x)])) rfl rfl (hb hby d20_13)
    obtain ⟨g491, hf492⟩ := own_gd hf487
    clear hf487
    obtain ⟨v494, d_v494, hf495⟩ := own_nai hf492
    clear hf492
    obtain ⟨cl493, Ar493, hin493, hat493⟩ := B0.get 0 (Or.inl (by decide)) g491 d_v494
    have At493 : Arr Z h0 (A 0) cl493 .int := Ar493
    have pre496 : Cm p e below E0 (T490.setTop (mkF m 19 (lt16 x p1) [(.int (2 : Int32)), (.int v494)])) := fun t kt => by
      refine pre488 t ?_
      show Sp p e below T482 (mkF m 7 (lt16 x p1) [(.int (2 : Int32)), (.int v486)]) _
      refine XS.icmpYes X482.here hx rfl (pc0 := 7) (pc' := 12) rfl (hb hby d20_7) rfl (flt hc489).2.1 (by decide) (by decide) ?_
      show Sp p e below T482 (mkF m 12 (lt16 x p1) []) _
      refine XS.aloadN X482.here hx rfl (hb hby d20_12) rfl rfl ?_
      show Sp p e below T482 (mkF m 13 (lt16 x p1) [(.ref x)]) _
      refine st490 _ ?_
      show Sp p e below T490 (mkF m 16 (lt16 x p1) [(.ref (A 0))]) _
      refine XS.iloadN X490.here hx rfl (hb hby d20_16) rfl ?_
      show Sp p e below T490 (mkF m 17 (lt16 x p1) [(.int p1), (.ref (A 0))]) _
      refine X490.iaload hx (j := p1) (v := (.int v494)) (by rw [e490]; exact Ar493.1) (State.isArrayOf_alike hZ.alike At493.2.1) At493.2.2 hin493 hat493 (g := (mkF m 17 (lt16 x p1) [(.int p1), (.ref (A 0))])) rfl rfl (hb hby d20_17) _ ?_
      show Sp p e below T490 (mkF m 18 (lt16 x p1) [(.int v494)]) _
      refine XS.iconst X490.here hx rfl (hb hby d20_18) ?_
      show Sp p e below T490 (mkF m 19 (lt16 x p1) [(.int (2 : Int32)), (.int v494)]) _
      exact kt
    by_cases hc497 : v494 = (2 : Int32)
    · rw [own_eqT hc497] at hf495
      obtain ⟨T498, X498, e498, st498⟩ := getF X490 hx hZ hown (host := "") (Or.inl (hw _ (tk 26 rfl))) Via.refl e490 (B0.fld 3 rfl) (g := (mkF m 30 (lt17 x p1 (1 : Int32)) [(.ref x), (.int (1 : Int32))])) rfl rfl (hb hby d20_30)
      obtain ⟨v500, d_v500, hf501⟩ := own_nai hf495
      clear hf495
      obtain ⟨cl499, Ar499, hin499, hat499⟩ := B0.get 1 (Or.inl (by decide)) g483 d_v500
      have At499 : Arr Z h0 (A 1) cl499 .int := Ar499
      have pre502 : Cm p e below E0 (T498.setTop (mkF m 36 (lt17 x p1 (1 : Int32)) [(.int (2 : Int32)), (.int v500), (.int (1 : Int32))])) := fun t kt => by
        refine pre496 t ?_
        show Sp p e below T490 (mkF m 19 (lt16 x p1) [(.int (2 : Int32)), (.int v494)]) _
        refine XS.icmpNo X490.here hx rfl (hb hby d20_19) rfl (teq hc497).2 ?_
        show Sp p e below T490 (mkF m 22 (lt16 x p1) []) _
        refine XS.iconst X490.here hx rfl (hb hby d20_22) ?_
        show Sp p e below T490 (mkF m 23 (lt16 x p1) [(.int (1 : Int32))]) _
        refine XS.goto X490.here hx rfl (pc0 := 23) (pc' := 27) rfl (hb hby d20_23) (by decide) (by decide) ?_
        show Sp p e below T490 (mkF m 27 (lt16 x p1) [(.int (1 : Int32))]) _
        refine XS.istoreN X490.here hx rfl (hb hby d20_27) rfl (l' := (lt17 x p1 (1 : Int32))) rfl ?_
        refine XS.iloadN X490.here hx rfl (hb hby d20_28) rfl ?_
        show Sp p e below T490 (mkF m 29 (lt17 x p1 (1 : Int32)) [(.int (1 : Int32))]) _
        refine XS.aloadN X490.here hx rfl (hb hby d20_29) rfl rfl ?_
        show Sp p e below T490 (mkF m 30 (lt17 x p1 (1 : Int32)) [(.ref x), (.int (1 : Int32))]) _
        refine st498 _ ?_
        show Sp p e below T498 (mkF m 33 (lt17 x p1 (1 : Int32)) [(.ref (A 1)), (.int (1 : Int32))]) _
        refine XS.iloadN X498.here hx rfl (hb hby d20_33) rfl ?_
        show Sp p e below T498 (mkF m 34 (lt17 x p1 (1 : Int32)) [(.int p1), (.ref (A 1)), (.int (1 : Int32))]) _
        refine X498.iaload hx (j := p1) (v := (.int v500)) (by rw [e498]; exact Ar499.1) (State.isArrayOf_alike hZ.alike At499.2.1) At499.2.2 hin499 hat499 (g := (mkF m 34 (lt17 x p1 (1 : Int32)) [(.int p1), (.ref (A 1)), (.int (1 : Int32))])) rfl rfl (hb hby d20_34) _ ?_
        show Sp p e below T498 (mkF m 35 (lt17 x p1 (1 : Int32)) [(.int v500), (.int (1 : Int32))]) _
        refine XS.iconst X498.here hx rfl (hb hby d20_35) ?_
        show Sp p e below T498 (mkF m 36 (lt17 x p1 (1 : Int32)) [(.int (2 : Int32)), (.int v500), (.int (1 : Int32))]) _
        exact kt
      by_cases hc503 : v500 = (2 : Int32)
      · rw [own_eqT hc503] at hf501
        obtain ⟨rfl, rfl⟩ := own_ret hf501
        obtain ⟨fs, hr, hrun, hended, hW, hsame⟩ := X498.leave (v := some (.int (1 : Int32))) (fun h => by rw [Bd.returns] at h; cases h) (BodyLoose.notSynchronized Bd)
        refine hno ⟨_, _, pre502 _ ?_, hrun, hended, _, _, rfl, ?_, ⟨_, rfl⟩, hW, hsame.mono (by decide) (by decide)⟩
        · show Sp p e below T498 (mkF m 36 (lt17 x p1 (1 : Int32)) [(.int (2 : Int32)), (.int v500), (.int (1 : Int32))]) _
          refine XS.icmpNo X498.here hx rfl (hb hby d20_36) rfl (teq hc503).2 ?_
          show Sp p e below T498 (mkF m 39 (lt17 x p1 (1 : Int32)) [(.int (1 : Int32))]) _
          refine XS.iconst X498.here hx rfl (hb hby d20_39) ?_
          show Sp p e below T498 (mkF m 40 (lt17 x p1 (1 : Int32)) [(.int (1 : Int32)), (.int (1 : Int32))]) _
          refine XS.goto X498.here hx rfl (pc0 := 40) (pc' := 44) rfl (hb hby d20_40) (by decide) (by decide) ?_
          show Sp p e below T498 (mkF m 44 (lt17 x p1 (1 : Int32)) [(.int (1 : Int32)), (.int (1 : Int32))]) _
          refine XS.icmpNo X498.here hx rfl (hb hby d20_44) rfl (teq (by decide : ((1 : Int32) = (1 : Int32)))).2 ?_
          show Sp p e below T498 (mkF m 47 (lt17 x p1 (1 : Int32)) []) _
          refine XS.iconst X498.here hx rfl (hb hby d20_47) ?_
          show Sp p e below T498 (mkF m 48 (lt17 x p1 (1 : Int32)) [(.int (1 : Int32))]) _
          exact retN X498 hx (t := .boolean) Bd.returns (by simp) (hb hby d20_48) hr
        · show Q20 Z n0 ex x A K S0 nc _ _ _ T498.heap _
          rw [e498]
          exact ⟨rfl, N0, O0, B0⟩
      · rw [own_eqF hc503] at hf501
        have pre504 : Cm p e below E0 (T498.setTop (mkF m 51 (lt18 x p1 (1 : Int32) (0 : Int32)) [])) := fun t kt => by
          refine pre502 t ?_
          show Sp p e below T498 (mkF m 36 (lt17 x p1 (1 : Int32)) [(.int (2 : Int32)), (.int v500), (.int (1 : Int32))]) _
          refine XS.icmpYes X498.here hx rfl (pc0 := 36) (pc' := 43) rfl (hb hby d20_36) rfl (feq hc503).2 (by decide) (by decide) ?_
          show Sp p e below T498 (mkF m 43 (lt17 x p1 (1 : Int32)) [(.int (1 : Int32))]) _
          refine XS.iconst X498.here hx rfl (hb hby d20_43) ?_
          show Sp p e below T498 (mkF m 44 (lt17 x p1 (1 : Int32)) [(.int (0 : Int32)), (.int (1 : Int32))]) _
          refine XS.icmpYes X498.here hx rfl (pc0 := 44) (pc' := 49) rfl (hb hby d20_44) rfl (feq (by decide : ¬ ((1 : Int32) = (0 : Int32)))).2 (by decide) (by decide) ?_
          show Sp p e below T498 (mkF m 49 (lt17 x p1 (1 : Int32)) []) _
          refine XS.iconst X498.here hx rfl (hb hby d20_49) ?_
          refine XS.istoreN X498.here hx rfl (hb hby d20_50) rfl (l' := (lt18 x p1 (1 : Int32) (0 : Int32))) rfl ?_
          show Sp p e below T498 (mkF m 51 (lt18 x p1 (1 : Int32) (0 : Int32)) []) _
          exact kt
        exact (lp 200) M p1 (1 : Int32) (0 : Int32) (.unset) (Or.inl rfl) T498 _ _ X498 e498 O0 N0 B0 hf501 pre504
    · rw [own_eqF hc497] at hf495
      obtain ⟨T505, X505, e505, st505⟩ := getF X490 hx hZ hown (host := "") (Or.inl (hw _ (tk 26 rfl))) Via.refl e490 (B0.fld 3 rfl) (g := (mkF m 30 (lt17 x p1 (0 : Int32)) [(.ref x), (.int (0 : Int32))])) rfl rfl (hb hby d20_30)
      obtain ⟨v507, d_v507, hf508⟩ := own_nai hf495
      clear hf495
      obtain ⟨cl506, Ar506, hin506, hat506⟩ := B0.get 1 (Or.inl (by decide)) g483 d_v507
      have At506 : Arr Z h0 (A 1) cl506 .int := Ar506
      have pre509 : Cm p e below E0 (T505.setTop (mkF m 36 (lt17 x p1 (0 : Int32)) [(.int (2 : Int32)), (.int v507), (.int (0 : Int32))])) := fun t kt => by
        refine pre496 t ?_
        show Sp p e below T490 (mkF m 19 (lt16 x p1) [(.int (2 : Int32)), (.int v494)]) _
        refine XS.icmpYes X490.here hx rfl (pc0 := 19) (pc' := 26) rfl (hb hby d20_19) rfl (feq hc497).2 (by decide) (by decide) ?_
        show Sp p e below T490 (mkF m 26 (lt16 x p1) []) _
        refine XS.iconst X490.here hx rfl (hb hby d20_26) ?_
        refine XS.istoreN X490.here hx rfl (hb hby d20_27) rfl (l' := (lt17 x p1 (0 : Int32))) rfl ?_
        show Sp p e below T490 (mkF m 28 (lt17 x p1 (0 : Int32)) []) _
        refine XS.iloadN X490.here hx rfl (hb hby d20_28) rfl ?_
        refine XS.aloadN X490.here hx rfl (hb hby d20_29) rfl rfl ?_
        show Sp p e below T490 (mkF m 30 (lt17 x p1 (0 : Int32)) [(.ref x), (.int (0 : Int32))]) _
        refine st505 _ ?_
        show Sp p e below T505 (mkF m 33 (lt17 x p1 (0 : Int32)) [(.ref (A 1)), (.int (0 : Int32))]) _
        refine XS.iloadN X505.here hx rfl (hb hby d20_33) rfl ?_
        show Sp p e below T505 (mkF m 34 (lt17 x p1 (0 : Int32)) [(.int p1), (.ref (A 1)), (.int (0 : Int32))]) _
        refine X505.iaload hx (j := p1) (v := (.int v507)) (by rw [e505]; exact Ar506.1) (State.isArrayOf_alike hZ.alike At506.2.1) At506.2.2 hin506 hat506 (g := (mkF m 34 (lt17 x p1 (0 : Int32)) [(.int p1), (.ref (A 1)), (.int (0 : Int32))])) rfl rfl (hb hby d20_34) _ ?_
        show Sp p e below T505 (mkF m 35 (lt17 x p1 (0 : Int32)) [(.int v507), (.int (0 : Int32))]) _
        refine XS.iconst X505.here hx rfl (hb hby d20_35) ?_
        show Sp p e below T505 (mkF m 36 (lt17 x p1 (0 : Int32)) [(.int (2 : Int32)), (.int v507), (.int (0 : Int32))]) _
        exact kt
      by_cases hc510 : v507 = (2 : Int32)
      · rw [own_eqT hc510] at hf508
        have pre511 : Cm p e below E0 (T505.setTop (mkF m 51 (lt18 x p1 (0 : Int32) (0 : Int32)) [])) := fun t kt => by
          refine pre509 t ?_
          show Sp p e below T505 (mkF m 36 (lt17 x p1 (0 : Int32)) [(.int (2 : Int32)), (.int v507), (.int (0 : Int32))]) _
          refine XS.icmpNo X505.here hx rfl (hb hby d20_36) rfl (teq hc510).2 ?_
          show Sp p e below T505 (mkF m 39 (lt17 x p1 (0 : Int32)) [(.int (0 : Int32))]) _
          refine XS.iconst X505.here hx rfl (hb hby d20_39) ?_
          show Sp p e below T505 (mkF m 40 (lt17 x p1 (0 : Int32)) [(.int (1 : Int32)), (.int (0 : Int32))]) _
          refine XS.goto X505.here hx rfl (pc0 := 40) (pc' := 44) rfl (hb hby d20_40) (by decide) (by decide) ?_
          show Sp p e below T505 (mkF m 44 (lt17 x p1 (0 : Int32)) [(.int (1 : Int32)), (.int (0 : Int32))]) _
          refine XS.icmpYes X505.here hx rfl (pc0 := 44) (pc' := 49) rfl (hb hby d20_44) rfl (feq (by decide : ¬ ((0 : Int32) = (1 : Int32)))).2 (by decide) (by decide) ?_
          show Sp p e below T505 (mkF m 49 (lt17 x p1 (0 : Int32)) []) _
          refine XS.iconst X505.here hx rfl (hb hby d20_49) ?_
          refine XS.istoreN X505.here hx rfl (hb hby d20_50) rfl (l' := (lt18 x p1 (0 : Int32) (0 : Int32))) rfl ?_
          show Sp p e below T505 (mkF m 51 (lt18 x p1 (0 : Int32) (0 : Int32)) []) _
          exact kt
        exact (lp 200) M p1 (0 : Int32) (0 : Int32) (.unset) (Or.inl rfl) T505 _ _ X505 e505 O0 N0 B0 hf508 pre511
      · rw [own_eqF hc510] at hf508
        obtain ⟨rfl, rfl⟩ := own_ret hf508
        obtain ⟨fs, hr, hrun, hended, hW, hsame⟩ := X505.leave (v := some (.int (1 : Int32))) (fun h => by rw [Bd.returns] at h; cases h) (BodyLoose.notSynchronized Bd)
        refine hno ⟨_, _, pre509 _ ?_, hrun, hended, _, _, rfl, ?_, ⟨_, rfl⟩, hW, hsame.mono (by decide) (by decide)⟩
        · show Sp p e below T505 (mkF m 36 (lt17 x p1 (0 : Int32)) [(.int (2 : Int32)), (.int v507), (.int (0 : Int32))]) _
          refine XS.icmpYes X505.here hx rfl (pc0 := 36) (pc' := 43) rfl (hb hby d20_36) rfl (feq hc510).2 (by decide) (by decide) ?_
          show Sp p e below T505 (mkF m 43 (lt17 x p1 (0 : Int32)) [(.int (0 : Int32))]) _
          refine XS.iconst X505.here hx rfl (hb hby d20_43) ?_
          show Sp p e below T505 (mkF m 44 (lt17 x p1 (0 : Int32)) [(.int (0 : Int32)), (.int (0 : Int32))]) _
          refine XS.icmpNo X505.here hx rfl (hb hby d20_44) rfl (teq (by decide : ((0 : Int32) = (0 : Int32)))).2 ?_
          show Sp p e below T505 (mkF m 47 (lt17 x p1 (0 : Int32)) []) _
          refine XS.iconst X505.here hx rfl (hb hby d20_47) ?_
          show Sp p e below T505 (mkF m 48 (lt17 x p1 (0 : Int32)) [(.int (1 : Int32))]) _
          exact retN X505 hx (t := .boolean) Bd.returns (by simp) (hb hby d20_48) hr
        · show Q20 Z n0 ex x A K S0 nc _ _ _ T505.heap _
          rw [e505]
          exact ⟨rfl, N0, O0, B0⟩
theorem pn_25 : plainName "com/example/onetree/onetree/EdgeStates" = true := by first | (simp [plainName, overriddenIn]; done) | decide +kernel
def lp25 (nc : Nat) : Nat → MM → Option (Int32 × MM)
  | 0, _ => none
  | k + 1, M => nai (ld M 12 0) fun v687 => cnd (ltB (0 : Int32) v687) (nai (ld M 11 0) fun v694 => gd (inr v694 (lnR nc 4)) (nai (ld M 4 (ix v694)) fun v700 => gd (inr v700 (lnR nc 5)) (nam (sto M 5 (ix v700) (0 : Int32)) fun M705 => nai (ld M705 11 0) fun v707 => nam (sto M705 11 0 ((v707 + (1 : Int32)) % (Int32.ofNat nc))) fun M711 => nai (ld M711 12 0) fun v713 => nam (sto M711 12 0 (v713 - (1 : Int32))) fun M716 => lp25 nc k M716))) (some (0, M))
def f25 (nc : Nat) (M : MM) : Option (Int32 × MM) := lp25 nc 200 M
theorem ef_25 (m : MethodId) (x : Addr) (A : Nat → Addr) : entryFrame m #[(.ref x)] 1 = mkF m 0 #[.val (.ref x)] [] := by first | (simp [entryFrame, mkF, argsToLocals, Value.category]; done) | rfl
def Q25 (Z : State) (n0 : Nat) (ex : Bool) (x : Addr) (A : Nat → Addr) (K : Nat → ClassId) (S0 : Addr) (nc : Nat) (rv : Int32) (M' : MM) (v : Option Value) (h : Heap) (L : List Loc) : Prop := v = none ∧ Fr n0 L ∧ Old Z n0 h ∧ EB Z n0 ex h x A K S0 nc M'
set_option maxRecDepth 65536 in
set_option maxHeartbeats 40000000 in
theorem rm25 (l : Launch) (Z : State) (a0 : Array Value) (hw : ∀ d ∈ tables_1, d.before a0 Z = true) (ws : List Jvm.Cond) (hSl : SlotsOK Z) (ex : Bool) (x : Addr) (A : Nat → Addr) (K : Nat → ClassId) (S0 : Addr) (nc : Nat) (M : MM) (rv : Int32) (M' : MM) (h0 : Heap) (n0 : Nat) (O0 : Old Z n0 h0) (B0 : EB Z n0 ex h0 x A K S0 nc M) (hf : f25 nc M = some (rv, M')) :
    MetFree l Y36 (head1 (Jvm.Cond.code Y36 prog_7_method_23_code 1 none :: ws) ({ frames := 0, cells := 0, slots := 0, locals := 0 } : Room)) (fun a U => a = #[(.ref x)] ∧ Z.Warmed39 U.vm ∧ U.heap = h0) (fun _ _ _ _ _ => True) (fun _ U o U' => ∃ v L, o = .returned v ∧ Q25 Z n0 ex x A K S0 nc rv M' v U'.heap L ∧ FrameEnd U o U' L ({ frames := 0, cells := 0, slots := 0, locals := 0 } : Room).cells ({ frames := 0, cells := 0, slots := 0, locals := 0 } : Room).slots) := by
  refine MetFree.of_bodySF (plainFor_of_name pn_25) hisR ?_
  intro p e s m args below meth c s₁ Bd hml0 hP hK
  obtain ⟨rfl, hZ, hh⟩ := hP
  have hx := Bd.exec
  have hby := Bd.bytes
  have hml : c.maxLocals = 1 := hml0
  have hown : s.vm.findClass "com/example/onetree/onetree/EdgeStates" = some m.cls := findClass_of_methodNamed Bd.named
  have X0 : Stand p l e ({ frames := 0, cells := 0, slots := 0, locals := 0 } : Room) s m #[(.ref x)] below meth c s₁ [] 0 0 := Stand.of_body Bd
  have e0 : s₁.heap = h0 := by rw [← hh, Bd.state]; rfl
  have N0 := Fr.nil n0
  have pre0 : ∀ t, Steps p.tables e below (s₁.setTop (mkF m 0 #[.val (.ref x)] [])) t → Steps p.tables e below (s₁.setTop (entryFrame m #[(.ref x)] 1)) t := fun t k => castTop (ef_25 m x A) k
  generalize hE0 : s₁.setTop (entryFrame m #[(.ref x)] 1) = E0 at pre0 ⊢
  apply Classical.byContradiction
  intro hno
  unfold f25 at hf
  have lp : ∀ k : Nat, (∀ (M : MM) (T0 : State) (L1 : List Loc) (h1 : Heap), Stand p l e ({ frames := 0, cells := 0, slots := 0, locals := 0 } : Room) s m #[(.ref x)] below meth c T0 L1 0 0 → T0.heap = h1 → Old Z n0 h1 → Fr n0 L1 → EB Z n0 ex h1 x A K S0 nc M → lp25 nc k M = some (rv, M') → Cm p e below E0 (T0.setTop (mkF m 0 (lt26 x) [])) → False) := by
    intro k
    induction k with
    | zero => exact fun M  T0 L1 h1 X1 e1 O1 N1 B1 hf pre1 => (by rw [lp25] at hf; cases hf)
    | succ k ih =>
      refine fun M  T0 L1 h1 X1 e1 O1 N1 B1 hf pre1 => ?_
      · rw [lp25] at hf
        obtain ⟨v687, d_v687, hf688⟩ := own_nai hf
        clear hf
        obtain ⟨T689, X689, e689, st689⟩ := getF X1 hx hZ hown (host := "") (Or.inl (hw _ (tk 116 rfl))) Via.refl e1 (own_rwF d_v687 (B1.sca 3 rfl)) (g := (mkF m 1 (lt26 x) [(.ref x)])) rfl rfl (hb hby d25_1)
        have pre690 : Cm p e below E0 (T689.setTop (mkF m 4 (lt26 x) [(.int v687)])) := fun t kt => by
          refine pre1 t ?_
          show Sp p e below T0 (mkF m 0 (lt26 x) []) _
          refine XS.aloadN X1.here hx rfl (hb hby d25_0) rfl rfl ?_
          show Sp p e below T0 (mkF m 1 (lt26 x) [(.ref x)]) _
          refine st689 _ ?_
          show Sp p e below T689 (mkF m 4 (lt26 x) [(.int v687)]) _
          exact kt
        by_cases hc691 : (0 : Int32) < v687
        · rw [own_ltT hc691] at hf688
          obtain ⟨T692, X692, e692, st692⟩ := getF X689 hx hZ hown (host := "") (Or.inl (hw _ (tk 46 rfl))) Via.refl e689 (B1.fld 7 rfl) (g := (mkF m 8 (lt26 x) [(.ref x)])) rfl rfl (hb hby d25_8)
          obtain ⟨T693, X693, e693, st693⟩ := getF X692 hx hZ hown (host := "") (Or.inl (hw _ (tk 43 rfl))) Via.refl e692 (B1.fld 6 rfl) (g := (mkF m 12 (lt26 x) [(.ref x), (.ref (A 5))])) rfl rfl (hb hby d25_12)
          obtain ⟨v694, d_v694, hf695⟩ := own_nai hf688
          clear hf688
          obtain ⟨T696, X696, e696, st696⟩ := getF X693 hx hZ hown (host := "") (Or.inl (hw _ (tk 114 rfl))) Via.refl e693 (own_rwF d_v694 (B1.sca 2 rfl)) (g := (mkF m 16 (lt26 x) [(.ref x), (.ref (A 4)), (.ref (A 5))])) rfl rfl (hb hby d25_16)
          obtain ⟨g697, hf698⟩ := own_gd hf695
          clear hf695
          obtain ⟨v700, d_v700, hf701⟩ := own_nai hf698
          clear hf698
          obtain ⟨cl699, Ar699, hin699, hat699⟩ := B1.get 4 (Or.inl (by decide)) g697 d_v700
          have At699 : Arr Z h1 (A 4) cl699 .int := Ar699
          obtain ⟨g702, hf703⟩ := own_gd hf701
          clear hf701
          obtain ⟨cl704, Ar704, hin704⟩ := B1.at 5 (Or.inl (by decide)) g702
          have At704 : Arr Z h1 (A 5) cl704 .boolean := Ar704
          obtain ⟨T705, h705, X705, e705, W705, st705⟩ := stZ X696 hx hZ e696 At704 (j := v700) hin704 (g := (mkF m 21 (lt26 x) [(.int (0 : Int32)), (.int v700), (.ref (A 5))])) rfl rfl (hb hby d25_21)
          obtain ⟨M705, d_M705, hf706⟩ := own_nam hf703
          clear hf703
          have B705 := B1.wr (v := (0 : Int32)) 5 (Or.inl (by decide)) g702 W705 (by decide)
          rw [← d_M705] at B705
          have O705 : Old Z n0 h705 := O1.wr W705 (B1.old 5 (Or.inl (by decide)))
          have N705 := Fr.snoc X705 N1 (B1.old 5 (Or.inl (by decide)))
          obtain ⟨v707, d_v707, hf708⟩ := own_nai hf706
          clear hf706
          obtain ⟨T709, X709, e709, st709⟩ := getF X705 hx hZ hown (host := "") (Or.inl (hw _ (tk 114 rfl))) Via.refl e705 (own_rwF d_v707 (B705.sca 2 rfl)) (g := (mkF m 24 (lt26 x) [(.ref x), (.ref x)])) rfl rfl (hb hby d25_24)
          obtain ⟨T710, X710, e710, st710⟩ := getF X709 hx hZ hown (host := "") (Or.inl (hw _ (tk 12 rfl))) Via.refl e709 (B705.fld 0 rfl) (g := (mkF m 30 (lt26 x) [(.ref x), (.int (v707 + (1 : Int32))), (.ref x)])) rfl rfl (hb hby d25_30)
          obtain ⟨T711, h711, X711, e711, W711, st711⟩ := putF X710 hx hZ hown (host := "") (Or.inl (hw _ (tk 114 rfl))) Via.refl e710 (B705.sca 2 rfl) B705.exa (Or.inl (hw _ (tk 115 rfl))) (hw _ (tk 1 rfl)) (ty := .int) (by decide) rfl rfl (g := (mkF m 34 (lt26 x) [(.int ((v707 + (1 : Int32)) % (Int32.ofNat nc))), (.ref x)])) rfl rfl (hb hby d25_34)
          obtain ⟨M711, d_M711, hf712⟩ := own_nam hf708
          clear hf708
          have B711 := B705.put hSl 2 rfl W711
          rw [← d_M711] at B711
          have O711 : Old Z n0 h711 := O705.wr W711 B705.oldx
          have N711 := Fr.snoc X711 N705 B705.oldx
          obtain ⟨v713, d_v713, hf714⟩ := own_nai hf712
          clear hf712
          obtain ⟨T715, X715, e715, st715⟩ := getF X711 hx hZ hown (host := "") (Or.inl (hw _ (tk 116 rfl))) Via.refl e711 (own_rwF d_v713 (B711.sca 3 rfl)) (g := (mkF m 39 (lt26 x) [(.ref x), (.ref x)])) rfl rfl (hb hby d25_39)
          obtain ⟨T716, h716, X716, e716, W716, st716⟩ := putF X715 hx hZ hown (host := "") (Or.inl (hw _ (tk 116 rfl))) Via.refl e715 (B711.sca 3 rfl) B711.exa (Or.inl (hw _ (tk 117 rfl))) (hw _ (tk 1 rfl)) (ty := .int) (by decide) rfl rfl (g := (mkF m 44 (lt26 x) [(.int (v713 - (1 : Int32))), (.ref x)])) rfl rfl (hb hby d25_44)
          obtain ⟨M716, d_M716, hf717⟩ := own_nam hf714
          clear hf714
          have B716 := B711.put hSl 3 rfl W716
          rw [← d_M716] at B716
          have O716 : Old Z n0 h716 := O711.wr W716 B711.oldx
          have N716 := Fr.snoc X716 N711 B711.oldx
          have pre718 : Cm p e below E0 (T716.setTop (mkF m 0 (lt26 x) [])) := fun t kt => by
            refine pre690 t ?_
            show Sp p e below T689 (mkF m 4 (lt26 x) [(.int v687)]) _
            refine XS.ifNo X689.here hx rfl (hb hby d25_4) rfl ((if0 _ _).trans (tlt hc691).2.2.2) ?_
            show Sp p e below T689 (mkF m 7 (lt26 x) []) _
            refine XS.aloadN X689.here hx rfl (hb hby d25_7) rfl rfl ?_
            show Sp p e below T689 (mkF m 8 (lt26 x) [(.ref x)]) _
            refine st692 _ ?_
            show Sp p e below T692 (mkF m 11 (lt26 x) [(.ref (A 5))]) _
            refine XS.aloadN X692.here hx rfl (hb hby d25_11) rfl rfl ?_
            show Sp p e below T692 (mkF m 12 (lt26 x) [(.ref x), (.ref (A 5))]) _
            refine st693 _ ?_
            show Sp p e below T693 (mkF m 15 (lt26 x) [(.ref (A 4)), (.ref (A 5))]) _
            refine XS.aloadN X693.here hx rfl (hb hby d25_15) rfl rfl ?_
            show Sp p e below T693 (mkF m 16 (lt26 x) [(.ref x), (.ref (A 4)), (.ref (A 5))]) _
            refine st696 _ ?_
            show Sp p e below T696 (mkF m 19 (lt26 x) [(.int v694), (.ref (A 4)), (.ref (A 5))]) _
            refine X696.iaload hx (j := v694) (v := (.int v700)) (by rw [e696]; exact Ar699.1) (State.isArrayOf_alike hZ.alike At699.2.1) At699.2.2 hin699 hat699 (g := (mkF m 19 (lt26 x) [(.int v694), (.ref (A 4)), (.ref (A 5))])) rfl rfl (hb hby d25_19) _ ?_
            show Sp p e below T696 (mkF m 20 (lt26 x) [(.int v700), (.ref (A 5))]) _
            refine XS.iconst X696.here hx rfl (hb hby d25_20) ?_
            show Sp p e below T696 (mkF m 21 (lt26 x) [(.int (0 : Int32)), (.int v700), (.ref (A 5))]) _
            refine st705 _ ?_
            show Sp p e below T705 (mkF m 22 (lt26 x) []) _
            refine XS.aloadN X705.here hx rfl (hb hby d25_22) rfl rfl ?_
            refine XS.aloadN X705.here hx rfl (hb hby d25_23) rfl rfl ?_
            show Sp p e below T705 (mkF m 24 (lt26 x) [(.ref x), (.ref x)]) _
            refine st709 _ ?_
            show Sp p e below T709 (mkF m 27 (lt26 x) [(.int v707), (.ref x)]) _
            refine XS.iconst X709.here hx rfl (hb hby d25_27) ?_
            refine XS.iadd X709.here hx rfl (hb hby d25_28) rfl ?_
            show Sp p e below T709 (mkF m 29 (lt26 x) [(.int (v707 + (1 : Int32))), (.ref x)]) _
            refine XS.aloadN X709.here hx rfl (hb hby d25_29) rfl rfl ?_
            show Sp p e below T709 (mkF m 30 (lt26 x) [(.ref x), (.int (v707 + (1 : Int32))), (.ref x)]) _
            refine st710 _ ?_
            show Sp p e below T710 (mkF m 33 (lt26 x) [(.int (Int32.ofNat nc)), (.int (v707 + (1 : Int32))), (.ref x)]) _
            refine iremM X710 hx rfl (hb hby d25_33) rfl B705.ncz ?_
            show Sp p e below T710 (mkF m 34 (lt26 x) [(.int ((v707 + (1 : Int32)) % (Int32.ofNat nc))), (.ref x)]) _
            refine st711 _ ?_
            show Sp p e below T711 (mkF m 37 (lt26 x) []) _
            refine XS.aloadN X711.here hx rfl (hb hby d25_37) rfl rfl ?_
            refine XS.dup X711.here hx rfl (hb hby d25_38) rfl rfl ?_
            show Sp p e below T711 (mkF m 39 (lt26 x) [(.ref x), (.ref x)]) _
            refine st715 _ ?_
            show Sp p e below T715 (mkF m 42 (lt26 x) [(.int v713), (.ref x)]) _
            refine XS.iconst X715.here hx rfl (hb hby d25_42) ?_
            refine XS.isub X715.here hx rfl (hb hby d25_43) rfl ?_
            show Sp p e below T715 (mkF m 44 (lt26 x) [(.int (v713 - (1 : Int32))), (.ref x)]) _
            refine st716 _ ?_
            show Sp p e below T716 (mkF m 47 (lt26 x) []) _
            refine XS.goto X716.here hx rfl (pc0 := 47) (pc' := 0) rfl (hb hby d25_47) (by decide) (by decide) ?_
            show Sp p e below T716 (mkF m 0 (lt26 x) []) _
            exact kt
          exact ih M716  T716 _ _ X716 e716 O716 N716 B716 hf717 pre718
        · rw [own_ltF hc691] at hf688
          obtain ⟨rfl, rfl⟩ := own_ret hf688
          obtain ⟨fs, hr, hrun, hended, hW, hsame⟩ := X689.leave (v := none) (fun _ => rfl) (BodyLoose.notSynchronized Bd)
          refine hno ⟨_, _, pre690 _ ?_, hrun, hended, _, _, rfl, ?_, ⟨_, rfl⟩, hW, hsame.mono (by decide) (by decide)⟩
          · show Sp p e below T689 (mkF m 4 (lt26 x) [(.int v687)]) _
            refine XS.ifYes X689.here hx rfl (pc0 := 4) (pc' := 50) rfl (hb hby d25_4) rfl ((if0 _ _).trans (flt hc691).2.2.2) (by decide) (by decide) ?_
            show Sp p e below T689 (mkF m 50 (lt26 x) []) _
            exact X689.returnOut hx Bd.returns (hb hby d25_50) hr
          · show Q25 Z n0 ex x A K S0 nc _ _ _ T689.heap _
            rw [e689]
            exact ⟨rfl, N1, O1, B1⟩
  exact (lp 200) M  s₁ _ _ X0 e0 O0 N0 B0 hf pre0
theorem pn_19 : plainName "com/example/onetree/onetree/EdgeStates" = true := by first | (simp [plainName, overriddenIn]; done) | decide +kernel
def lp19 (nc : Nat) : Nat → MM → Option (Int32 × MM)
  | 0, _ => none
  | k + 1, M => nai (ld M 12 0) fun v453 => cnd (ltB (0 : Int32) v453) (nai (ld M 11 0) fun v459 => gd (inr v459 (lnR nc 4)) (nai (ld M 4 (ix v459)) fun v465 => nam (sto M 11 0 ((v459 + (1 : Int32)) % (Int32.ofNat nc))) fun M469 => nai (ld M469 12 0) fun v471 => nam (sto M469 12 0 (v471 - (1 : Int32))) fun M474 => gd (inr v465 (lnR nc 5)) (nam (sto M474 5 (ix v465) (0 : Int32)) fun M480 => bnd (f20 nc M480 v465) fun v683 M683 => cnd (eqB v683 (0 : Int32)) (bnd (f25 nc M683) fun v719 M719 => some ((0 : Int32), M719)) (lp19 nc k M683)))) (some ((1 : Int32), M))
def f19 (nc : Nat) (M : MM) : Option (Int32 × MM) := lp19 nc 200 M
theorem ef_19 (m : MethodId) (x : Addr) (A : Nat → Addr) : entryFrame m #[(.ref x)] 2 = mkF m 0 #[.val (.ref x), .unset] [] := by first | (simp [entryFrame, mkF, argsToLocals, Value.category]; done) | rfl
def Q19 (Z : State) (n0 : Nat) (ex : Bool) (x : Addr) (A : Nat → Addr) (K : Nat → ClassId) (S0 : Addr) (nc : Nat) (rv : Int32) (M' : MM) (v : Option Value) (h : Heap) (L : List Loc) : Prop := v = some (.int rv) ∧ Fr n0 L ∧ Old Z n0 h ∧ EB Z n0 ex h x A K S0 nc M'
set_option maxRecDepth 65536 in
set_option maxHeartbeats 40000000 in
theorem rm19 (l : Launch) (Z : State) (a0 : Array Value) (hw : ∀ d ∈ tables_1, d.before a0 Z = true) (ws : List Jvm.Cond) (hSl : SlotsOK Z) (ex : Bool) (x : Addr) (A : Nat → Addr) (K : Nat → ClassId) (S0 : Addr) (nc : Nat) (M : MM) (rv : Int32) (M' : MM) (h0 : Heap) (n0 : Nat) (O0 : Old Z n0 h0) (B0 : EB Z n0 ex h0 x A K S0 nc M) (hf : f19 nc M = some (rv, M')) :
    MetFree l Y37 (head1 (Jvm.Cond.code Y37 prog_7_method_22_code 2 (some .boolean) :: ws) ({ frames := 4, cells := 0, slots := 0, locals := 64 } : Room)) (fun a U => a = #[(.ref x)] ∧ Z.Warmed39 U.vm ∧ U.heap = h0) (fun _ _ _ _ _ => True) (fun _ U o U' => ∃ v L, o = .returned v ∧ Q19 Z n0 ex x A K S0 nc rv M' v U'.heap L ∧ FrameEnd U o U' L ({ frames := 4, cells := 0, slots := 0, locals := 64 } : Room).cells ({ frames := 4, cells := 0, slots := 0, locals := 64 } : Room).slots) := by
  refine MetFree.of_bodySF (plainFor_of_name pn_19) hisR ?_
  intro p e s m args below meth c s₁ Bd hml0 hP hK
  obtain ⟨rfl, hZ, hh⟩ := hP
  have hx := Bd.exec
  have hby := Bd.bytes
  have hml : c.maxLocals = 2 := hml0
  have hown : s.vm.findClass "com/example/onetree/onetree/EdgeStates" = some m.cls := findClass_of_methodNamed Bd.named
  have X0 : Stand p l e ({ frames := 4, cells := 0, slots := 0, locals := 64 } : Room) s m #[(.ref x)] below meth c s₁ [] 0 0 := Stand.of_body Bd
  have e0 : s₁.heap = h0 := by rw [← hh, Bd.state]; rfl
  have N0 := Fr.nil n0
  have pre0 : ∀ t, Steps p.tables e below (s₁.setTop (mkF m 0 #[.val (.ref x), .unset] [])) t → Steps p.tables e below (s₁.setTop (entryFrame m #[(.ref x)] 2)) t := fun t k => castTop (ef_19 m x A) k
  generalize hE0 : s₁.setTop (entryFrame m #[(.ref x)] 2) = E0 at pre0 ⊢
  apply Classical.byContradiction
  intro hno
  unfold f19 at hf
  have lp : ∀ k : Nat, (∀ (M : MM) (s1 : Slot) (_ : s1 = .unset ∨ ∃ w, s1 = .val w ∧ w.category = 1) (T0 : State) (L1 : List Loc) (h1 : Heap), Stand p l e ({ frames := 4, cells := 0, slots := 0, locals := 64 } : Room) s m #[(.ref x)] below meth c T0 L1 0 0 → T0.heap = h1 → Old Z n0 h1 → Fr n0 L1 → EB Z n0 ex h1 x A K S0 nc M → lp19 nc k M = some (rv, M') → Cm p e below E0 (T0.setTop (mkF m 0 (lt15 x s1) [])) → False) := by
    intro k
    induction k with
    | zero => exact fun M s1 u1 T0 L1 h1 X1 e1 O1 N1 B1 hf pre1 => (by rw [lp19] at hf; cases hf)
    | succ k ih =>
      refine fun M s1 u1 T0 L1 h1 X1 e1 O1 N1 B1 hf pre1 => ?_
      · rw [lp19] at hf
        obtain ⟨v453, d_v453, hf454⟩ := own_nai hf
        clear hf
        obtain ⟨T455, X455, e455, st455⟩ := getF X1 hx hZ hown (host := "") (Or.inl (hw _ (tk 116 rfl))) Via.refl e1 (own_rwF d_v453 (B1.sca 3 rfl)) (g := (mkF m 1 (lt15 x s1) [(.ref x)])) rfl rfl (hb hby d19_1)
        have pre456 : Cm p e below E0 (T455.setTop (mkF m 4 (lt15 x s1) [(.int v453)])) := fun t kt => by
          refine pre1 t ?_
          show Sp p e below T0 (mkF m 0 (lt15 x s1) []) _
          refine XS.aloadN X1.here hx rfl (hb hby d19_0) rfl rfl ?_
          show Sp p e below T0 (mkF m 1 (lt15 x s1) [(.ref x)]) _
          refine st455 _ ?_
          show Sp p e below T455 (mkF m 4 (lt15 x s1) [(.int v453)]) _
          exact kt
        by_cases hc457 : (0 : Int32) < v453
        · rw [own_ltT hc457] at hf454
          obtain ⟨T458, X458, e458, st458⟩ := getF X455 hx hZ hown (host := "") (Or.inl (hw _ (tk 43 rfl))) Via.refl e455 (B1.fld 6 rfl) (g := (mkF m 8 (lt15 x s1) [(.ref x)])) rfl rfl (hb hby d19_8)
          obtain ⟨v459, d_v459, hf460⟩ := own_nai hf454
          clear hf454
          obtain ⟨T461, X461, e461, st461⟩ := getF X458 hx hZ hown (host := "") (Or.inl (hw _ (tk 114 rfl))) Via.refl e458 (own_rwF d_v459 (B1.sca 2 rfl)) (g := (mkF m 12 (lt15 x s1) [(.ref x), (.ref (A 4))])) rfl rfl (hb hby d19_12)
          obtain ⟨g462, hf463⟩ := own_gd hf460
          clear hf460
          obtain ⟨v465, d_v465, hf466⟩ := own_nai hf463
          clear hf463
          obtain ⟨cl464, Ar464, hin464, hat464⟩ := B1.get 4 (Or.inl (by decide)) g462 d_v465
          have At464 : Arr Z h1 (A 4) cl464 .int := Ar464
          obtain ⟨T467, X467, e467, st467⟩ := getF X461 hx hZ hown (host := "") (Or.inl (hw _ (tk 114 rfl))) Via.refl e461 (own_rwF d_v459 (B1.sca 2 rfl)) (g := (mkF m 19 (lt2 x v465) [(.ref x), (.ref x)])) rfl rfl (hb hby d19_19)
          obtain ⟨T468, X468, e468, st468⟩ := getF X467 hx hZ hown (host := "") (Or.inl (hw _ (tk 12 rfl))) Via.refl e467 (B1.fld 0 rfl) (g := (mkF m 25 (lt2 x v465) [(.ref x), (.int (v459 + (1 : Int32))), (.ref x)])) rfl rfl (hb hby d19_25)
          obtain ⟨T469, h469, X469, e469, W469, st469⟩ := putF X468 hx hZ hown (host := "") (Or.inl (hw _ (tk 114 rfl))) Via.refl e468 (B1.sca 2 rfl) B1.exa (Or.inl (hw _ (tk 115 rfl))) (hw _ (tk 1 rfl)) (ty := .int) (by decide) rfl rfl (g := (mkF m 29 (lt2 x v465) [(.int ((v459 + (1 : Int32)) % (Int32.ofNat nc))), (.ref x)])) rfl rfl (hb hby d19_29)
          obtain ⟨M469, d_M469, hf470⟩ := own_nam hf466
          clear hf466
          have B469 := B1.put hSl 2 rfl W469
          rw [← d_M469] at B469
          have O469 : Old Z n0 h469 := O1.wr W469 B1.oldx
          have N469 := Fr.snoc X469 N1 B1.oldx
          obtain ⟨v471, d_v471, hf472⟩ := own_nai hf470
          clear hf470
          obtain ⟨T473, X473, e473, st473⟩ := getF X469 hx hZ hown (host := "") (Or.inl (hw _ (tk 116 rfl))) Via.refl e469 (own_rwF d_v471 (B469.sca 3 rfl)) (g := (mkF m 34 (lt2 x v465) [(.ref x), (.ref x)])) rfl rfl (hb hby d19_34)
          obtain ⟨T474, h474, X474, e474, W474, st474⟩ := putF X473 hx hZ hown (host := "") (Or.inl (hw _ (tk 116 rfl))) Via.refl e473 (B469.sca 3 rfl) B469.exa (Or.inl (hw _ (tk 117 rfl))) (hw _ (tk 1 rfl)) (ty := .int) (by decide) rfl rfl (g := (mkF m 39 (lt2 x v465) [(.int (v471 - (1 : Int32))), (.ref x)])) rfl rfl (hb hby d19_39)
          obtain ⟨M474, d_M474, hf475⟩ := own_nam hf472
          clear hf472
          have B474 := B469.put hSl 3 rfl W474
          rw [← d_M474] at B474
          have O474 : Old Z n0 h474 := O469.wr W474 B469.oldx
          have N474 := Fr.snoc X474 N469 B469.oldx
          obtain ⟨T476, X476, e476, st476⟩ := getF X474 hx hZ hown (host := "") (Or.inl (hw _ (tk 46 rfl))) Via.refl e474 (B474.fld 7 rfl) (g := (mkF m 43 (lt2 x v465) [(.ref x)])) rfl rfl (hb hby d19_43)
          obtain ⟨g477, hf478⟩ := own_gd hf475
          clear hf475
          obtain ⟨cl479, Ar479, hin479⟩ := B474.at 5 (Or.inl (by decide)) g477
          have At479 : Arr Z h474 (A 5) cl479 .boolean := Ar479
          obtain ⟨T480, h480, X480, e480, W480, st480⟩ := stZ X476 hx hZ e476 At479 (j := v465) hin479 (g := (mkF m 48 (lt2 x v465) [(.int (0 : Int32)), (.int v465), (.ref (A 5))])) rfl rfl (hb hby d19_48)
          obtain ⟨M480, d_M480, hf481⟩ := own_nam hf478
          clear hf478
          have B480 := B474.wr (v := (0 : Int32)) 5 (Or.inl (by decide)) g477 W480 (by decide)
          rw [← d_M480] at B480
          have O480 : Old Z n0 h480 := O474.wr W480 (B474.old 5 (Or.inl (by decide)))
          have N480 := Fr.snoc X480 N474 (B474.old 5 (Or.inl (by decide)))
          obtain ⟨v683, M683, hc683, hf684⟩ := own_bnd hf481
          clear hf481
          obtain ⟨cq683, q683, q683'⟩ := B480.exa.cell
          obtain ⟨_, _, ⟨T683, L683, k683, n683⟩, -, X683, ⟨Lc683, hQ683, l683, y683, z683⟩, st683⟩ := X480.privateBack hx (y := Y34) hown (mvT hZ (hw _ (tk 122 rfl))) (mvT hZ (hw _ (tk 123 rfl))) (own_selP rfl (mvT hZ (hw _ (tk 1 rfl))) (Cond.privateMethod_at (mvP hZ (hw _ (tk 124 rfl)) (args := #[]))) (mvT hZ (hw _ (tk 123 rfl))) (by decide)) (Cond.privateMethod_at (mvP hZ (hw _ (tk 124 rfl)) (args := #[]))) (mvT hZ (hw _ (tk 125 rfl))) (by decide) (backOf (W := 0) (rm20 l Z a0 hw [] hSl ex x A K S0 nc M480 v465 v683 M683 h480 n0 O480 B480 hc683) hZ (hw _ (tk 125 rfl)) (hw _ (tk 2 rfl)) (by decide) (by decide)) (g := (mkF m 51 (lt2 x v465) [(.int v465), (.ref x)])) rfl (by rw [hml]; rfl) (Steps.refl _) (a := x) (by rw [e480]; exact q683) q683' (argsL := [(.int v465)]) (rest := []) (lenOf pd_7 rfl) rfl (by show 2 * 0 + _ ≤ _; exact Nat.le_of_eq rfl) (hb hby d19_51) (fun _ _ => ⟨rfl, e480, (by decide : 0 + 0 ≤ _), (by decide : 0 + 0 ≤ _)⟩)
          dsimp only [Pt.U, Pt.locs, Pt.cells, Pt.slots] at X683 l683 y683 z683 st683 hQ683
          rw [l683, y683, z683] at X683
          obtain ⟨rv683, N683q, O683, B683⟩ := hQ683
          subst rv683
          have N683 := Fr.app N480 N683q
          have pre685 : Cm p e below E0 (T683.setTop (mkF m 54 (lt2 x v465) [(.int v683)])) := fun t kt => by
            refine pre456 t ?_
            show Sp p e below T455 (mkF m 4 (lt15 x s1) [(.int v453)]) _
            refine XS.ifNo X455.here hx rfl (hb hby d19_4) rfl ((if0 _ _).trans (tlt hc457).2.2.2) ?_
            show Sp p e below T455 (mkF m 7 (lt15 x s1) []) _
            refine XS.aloadN X455.here hx rfl (hb hby d19_7) rfl rfl ?_
            show Sp p e below T455 (mkF m 8 (lt15 x s1) [(.ref x)]) _
            refine st458 _ ?_
            show Sp p e below T458 (mkF m 11 (lt15 x s1) [(.ref (A 4))]) _
            refine XS.aloadN X458.here hx rfl (hb hby d19_11) rfl rfl ?_
            show Sp p e below T458 (mkF m 12 (lt15 x s1) [(.ref x), (.ref (A 4))]) _
            refine st461 _ ?_
            show Sp p e below T461 (mkF m 15 (lt15 x s1) [(.int v459), (.ref (A 4))]) _
            refine X461.iaload hx (j := v459) (v := (.int v465)) (by rw [e461]; exact Ar464.1) (State.isArrayOf_alike hZ.alike At464.2.1) At464.2.2 hin464 hat464 (g := (mkF m 15 (lt15 x s1) [(.int v459), (.ref (A 4))])) rfl rfl (hb hby d19_15) _ ?_
            show Sp p e below T461 (mkF m 16 (lt15 x s1) [(.int v465)]) _
            refine XS.istoreNS X461.here hx rfl (hb hby d19_16) rfl rfl u1 ?_
            refine XS.aloadN X461.here hx rfl (hb hby d19_17) rfl rfl ?_
            show Sp p e below T461 (mkF m 18 (lt2 x v465) [(.ref x)]) _
            refine XS.aloadN X461.here hx rfl (hb hby d19_18) rfl rfl ?_
            show Sp p e below T461 (mkF m 19 (lt2 x v465) [(.ref x), (.ref x)]) _
            refine st467 _ ?_
            show Sp p e below T467 (mkF m 22 (lt2 x v465) [(.int v459), (.ref x)]) _
            refine XS.iconst X467.here hx rfl (hb hby d19_22) ?_
            refine XS.iadd X467.here hx rfl (hb hby d19_23) rfl ?_
            show Sp p e below T467 (mkF m 24 (lt2 x v465) [(.int (v459 + (1 : Int32))), (.ref x)]) _
            refine XS.aloadN X467.here hx rfl (hb hby d19_24) rfl rfl ?_
            show Sp p e below T467 (mkF m 25 (lt2 x v465) [(.ref x), (.int (v459 + (1 : Int32))), (.ref x)]) _
            refine st468 _ ?_
            show Sp p e below T468 (mkF m 28 (lt2 x v465) [(.int (Int32.ofNat nc)), (.int (v459 + (1 : Int32))), (.ref x)]) _
            refine iremM X468 hx rfl (hb hby d19_28) rfl B1.ncz ?_
            show Sp p e below T468 (mkF m 29 (lt2 x v465) [(.int ((v459 + (1 : Int32)) % (Int32.ofNat nc))), (.ref x)]) _
            refine st469 _ ?_
            show Sp p e below T469 (mkF m 32 (lt2 x v465) []) _
            refine XS.aloadN X469.here hx rfl (hb hby d19_32) rfl rfl ?_
            refine XS.dup X469.here hx rfl (hb hby d19_33) rfl rfl ?_
            show Sp p e below T469 (mkF m 34 (lt2 x v465) [(.ref x), (.ref x)]) _
            refine st473 _ ?_
            show Sp p e below T473 (mkF m 37 (lt2 x v465) [(.int v471), (.ref x)]) _
            refine XS.iconst X473.here hx rfl (hb hby d19_37) ?_
            refine XS.isub X473.here hx rfl (hb hby d19_38) rfl ?_
            show Sp p e below T473 (mkF m 39 (lt2 x v465) [(.int (v471 - (1 : Int32))), (.ref x)]) _
            refine st474 _ ?_
            show Sp p e below T474 (mkF m 42 (lt2 x v465) []) _
            refine XS.aloadN X474.here hx rfl (hb hby d19_42) rfl rfl ?_
            show Sp p e below T474 (mkF m 43 (lt2 x v465) [(.ref x)]) _
            refine st476 _ ?_
            show Sp p e below T476 (mkF m 46 (lt2 x v465) [(.ref (A 5))]) _
            refine XS.iloadN X476.here hx rfl (hb hby d19_46) rfl ?_
            refine XS.iconst X476.here hx rfl (hb hby d19_47) ?_
            show Sp p e below T476 (mkF m 48 (lt2 x v465) [(.int (0 : Int32)), (.int v465), (.ref (A 5))]) _
            refine st480 _ ?_
            show Sp p e below T480 (mkF m 49 (lt2 x v465) []) _
            refine XS.aloadN X480.here hx rfl (hb hby d19_49) rfl rfl ?_
            refine XS.iloadN X480.here hx rfl (hb hby d19_50) rfl ?_
            show Sp p e below T480 (mkF m 51 (lt2 x v465) [(.int v465), (.ref x)]) _
            refine st683.trans ?_
            show Sp p e below T683 (mkF m 54 (lt2 x v465) [(.int v683)]) _
            exact kt
          by_cases hc686 : v683 = (0 : Int32)
          · rw [own_eqT hc686] at hf684
            obtain ⟨v719, M719, hc719, hf720⟩ := own_bnd hf684
            clear hf684
            obtain ⟨cq719, q719, q719'⟩ := B683.exa.cell
            obtain ⟨_, _, ⟨T719, L719, k719, n719⟩, -, X719, ⟨Lc719, hQ719, l719, y719, z719⟩, st719⟩ := X683.privateBack hx (y := Y36) hown (mvT hZ (hw _ (tk 144 rfl))) (mvT hZ (hw _ (tk 145 rfl))) (own_selP rfl (mvT hZ (hw _ (tk 1 rfl))) (Cond.privateMethod_at (mvP hZ (hw _ (tk 146 rfl)) (args := #[]))) (mvT hZ (hw _ (tk 145 rfl))) (by decide)) (Cond.privateMethod_at (mvP hZ (hw _ (tk 146 rfl)) (args := #[]))) (mvT hZ (hw _ (tk 147 rfl))) (by decide) (backOf (W := 0) (rm25 l Z a0 hw [] hSl ex x A K S0 nc M683 v719 M719 T683.heap n0 O683 B683 hc719) hZ (hw _ (tk 147 rfl)) (hw _ (tk 2 rfl)) (by decide) (by decide)) (g := (mkF m 58 (lt2 x v465) [(.ref x)])) rfl (by rw [hml]; rfl) (Steps.refl _) (a := x) q719 q719' (argsL := []) (rest := []) (lenOf pd_8 rfl) rfl (by show 2 * 0 + _ ≤ _; exact Nat.le_of_eq rfl) (hb hby d19_58) (fun _ _ => ⟨rfl, rfl, (by decide : 0 + 0 ≤ _), (by decide : 0 + 0 ≤ _)⟩)
            dsimp only [Pt.U, Pt.locs, Pt.cells, Pt.slots] at X719 l719 y719 z719 st719 hQ719
            rw [l719, y719, z719] at X719
            obtain ⟨rv719, N719q, O719, B719⟩ := hQ719
            subst rv719
            have N719 := Fr.app N683 N719q
            obtain ⟨rfl, rfl⟩ := own_ret hf720
            obtain ⟨fs, hr, hrun, hended, hW, hsame⟩ := X719.leave (v := some (.int (0 : Int32))) (fun h => by rw [Bd.returns] at h; cases h) (BodyLoose.notSynchronized Bd)
            refine hno ⟨_, _, pre685 _ ?_, hrun, hended, _, _, rfl, ?_, ⟨_, rfl⟩, hW, hsame.mono (by decide) (by decide)⟩
            · show Sp p e below T683 (mkF m 54 (lt2 x v465) [(.int v683)]) _
              refine XS.ifNo X683.here hx rfl (hb hby d19_54) rfl ((if0 _ _).trans (teq hc686).2) ?_
              show Sp p e below T683 (mkF m 57 (lt2 x v465) []) _
              refine XS.aloadN X683.here hx rfl (hb hby d19_57) rfl rfl ?_
              show Sp p e below T683 (mkF m 58 (lt2 x v465) [(.ref x)]) _
              refine st719.trans ?_
              show Sp p e below T719 (mkF m 61 (lt2 x v465) []) _
              refine XS.iconst X719.here hx rfl (hb hby d19_61) ?_
              show Sp p e below T719 (mkF m 62 (lt2 x v465) [(.int (0 : Int32))]) _
              exact retN X719 hx (t := .boolean) Bd.returns (by simp) (hb hby d19_62) hr
            · show Q19 Z n0 ex x A K S0 nc _ _ _ T719.heap _
              exact ⟨rfl, N719, O719, B719⟩
          · rw [own_eqF hc686] at hf684
            have pre721 : Cm p e below E0 (T683.setTop (mkF m 0 (lt2 x v465) [])) := fun t kt => by
              refine pre685 t ?_
              show Sp p e below T683 (mkF m 54 (lt2 x v465) [(.int v683)]) _
              refine XS.ifYes X683.here hx rfl (pc0 := 54) (pc' := 63) rfl (hb hby d19_54) rfl ((if0 _ _).trans (feq hc686).2) (by decide) (by decide) ?_
              show Sp p e below T683 (mkF m 63 (lt2 x v465) []) _
              refine XS.goto X683.here hx rfl (pc0 := 63) (pc' := 0) rfl (hb hby d19_63) (by decide) (by decide) ?_
              show Sp p e below T683 (mkF m 0 (lt2 x v465) []) _
              exact kt
            exact ih M683 (.val (.int v465)) (Or.inr ⟨_, rfl, rfl⟩) T683 _ _ X683 rfl O683 N683 B683 hf684 pre721
        · rw [own_ltF hc457] at hf454
          obtain ⟨rfl, rfl⟩ := own_ret hf454
          obtain ⟨fs, hr, hrun, hended, hW, hsame⟩ := X455.leave (v := some (.int (1 : Int32))) (fun h => by rw [Bd.returns] at h; cases h) (BodyLoose.notSynchronized Bd)
          refine hno ⟨_, _, pre456 _ ?_, hrun, hended, _, _, rfl, ?_, ⟨_, rfl⟩, hW, hsame.mono (by decide) (by decide)⟩
          · show Sp p e below T455 (mkF m 4 (lt15 x s1) [(.int v453)]) _
            refine XS.ifYes X455.here hx rfl (pc0 := 4) (pc' := 66) rfl (hb hby d19_4) rfl ((if0 _ _).trans (flt hc457).2.2.2) (by decide) (by decide) ?_
            show Sp p e below T455 (mkF m 66 (lt15 x s1) []) _
            refine XS.iconst X455.here hx rfl (hb hby d19_66) ?_
            show Sp p e below T455 (mkF m 67 (lt15 x s1) [(.int (1 : Int32))]) _
            exact retN X455 hx (t := .boolean) Bd.returns (by simp) (hb hby d19_67) hr
          · show Q19 Z n0 ex x A K S0 nc _ _ _ T455.heap _
            rw [e455]
            exact ⟨rfl, N1, O1, B1⟩
  exact (lp 200) M (.unset) (Or.inl rfl) s₁ _ _ X0 e0 O0 N0 B0 hf pre0
theorem pn_15 : plainName "com/example/onetree/onetree/EdgeStates" = true := by first | (simp [plainName, overriddenIn]; done) | decide +kernel
def f15 (nc : Nat) (M : MM) (p1 : Int32) (p2 : Int32) : Option (Int32 × MM) := bnd (f16 nc M p1 p2) fun v449 M449 => cnd (eqB v449 (0 : Int32)) (some ((0 : Int32), M449)) (bnd (f19 nc M449) fun v722 M722 => cnd (eqB v722 (0 : Int32)) (some ((0 : Int32), M722)) (some ((1 : Int32), M722)))
theorem ef_15 (m : MethodId) (x : Addr) (A : Nat → Addr) (p1 : Int32) (p2 : Int32) : entryFrame m #[(.ref x), (.int p1), (.int p2)] 3 = mkF m 0 #[.val (.ref x), .val (.int p1), .val (.int p2)] [] := by first | (simp [entryFrame, mkF, argsToLocals, Value.category]; done) | rfl
def Q15 (Z : State) (n0 : Nat) (ex : Bool) (x : Addr) (A : Nat → Addr) (K : Nat → ClassId) (S0 : Addr) (nc : Nat) (rv : Int32) (M' : MM) (v : Option Value) (h : Heap) (L : List Loc) : Prop := v = some (.int rv) ∧ Fr n0 L ∧ Old Z n0 h ∧ EB Z n0 ex h x A K S0 nc M'
set_option maxRecDepth 65536 in
set_option maxHeartbeats 40000000 in
theorem rm15 (l : Launch) (Z : State) (a0 : Array Value) (hw : ∀ d ∈ tables_1, d.before a0 Z = true) (ws : List Jvm.Cond) (hSl : SlotsOK Z) (ex : Bool) (x : Addr) (A : Nat → Addr) (K : Nat → ClassId) (S0 : Addr) (nc : Nat) (M : MM) (p1 : Int32) (p2 : Int32) (rv : Int32) (M' : MM) (h0 : Heap) (n0 : Nat) (O0 : Old Z n0 h0) (B0 : EB Z n0 ex h0 x A K S0 nc M) (hf : f15 nc M p1 p2 = some (rv, M')) :
    MetFree l Y38 (head1 (Jvm.Cond.code Y38 prog_7_method_13_code 3 (some .boolean) :: ws) ({ frames := 5, cells := 0, slots := 0, locals := 77 } : Room)) (fun a U => a = #[(.ref x), (.int p1), (.int p2)] ∧ Z.Warmed39 U.vm ∧ U.heap = h0) (fun _ _ _ _ _ => True) (fun _ U o U' => ∃ v L, o = .returned v ∧ Q15 Z n0 ex x A K S0 nc rv M' v U'.heap L ∧ FrameEnd U o U' L ({ frames := 5, cells := 0, slots := 0, locals := 77 } : Room).cells ({ frames := 5, cells := 0, slots := 0, locals := 77 } : Room).slots) := by
  refine MetFree.of_bodySF (plainFor_of_name pn_15) hisR ?_
  intro p e s m args below meth c s₁ Bd hml0 hP hK
  obtain ⟨rfl, hZ, hh⟩ := hP
  have hx := Bd.exec
  have hby := Bd.bytes
  have hml : c.maxLocals = 3 := hml0
  have hown : s.vm.findClass "com/example/onetree/onetree/EdgeStates" = some m.cls := findClass_of_methodNamed Bd.named
  have X0 : Stand p l e ({ frames := 5, cells := 0, slots := 0, locals := 77 } : Room) s m #[(.ref x), (.int p1), (.int p2)] below meth c s₁ [] 0 0 := Stand.of_body Bd
  have e0 : s₁.heap = h0 := by rw [← hh, Bd.state]; rfl
  have N0 := Fr.nil n0
  have pre0 : ∀ t, Steps p.tables e below (s₁.setTop (mkF m 0 #[.val (.ref x), .val (.int p1), .val (.int p2)] [])) t → Steps p.tables e below (s₁.setTop (entryFrame m #[(.ref x), (.int p1), (.int p2)] 3)) t := fun t k => castTop (ef_15 m x A p1 p2) k
  generalize hE0 : s₁.setTop (entryFrame m #[(.ref x), (.int p1), (.int p2)] 3) = E0 at pre0 ⊢
  apply Classical.byContradiction
  intro hno
  unfold f15 at hf
  obtain ⟨v449, M449, hc449, hf450⟩ := own_bnd hf
  clear hf
  obtain ⟨cq449, q449, q449'⟩ := B0.exa.cell
  obtain ⟨_, _, ⟨T449, L449, k449, n449⟩, -, X449, ⟨Lc449, hQ449, l449, y449, z449⟩, st449⟩ := X0.privateBack hx (y := Y20) hown (mvT hZ (hw _ (tk 102 rfl))) (mvT hZ (hw _ (tk 103 rfl))) (own_selP rfl (mvT hZ (hw _ (tk 1 rfl))) (Cond.privateMethod_at (mvP hZ (hw _ (tk 104 rfl)) (args := #[]))) (mvT hZ (hw _ (tk 103 rfl))) (by decide)) (Cond.privateMethod_at (mvP hZ (hw _ (tk 104 rfl)) (args := #[]))) (mvT hZ (hw _ (tk 105 rfl))) (by decide) (backOf (W := 0) (rm16 l Z a0 hw [] hSl ex x A K S0 nc M p1 p2 v449 M449 h0 n0 O0 B0 hc449) hZ (hw _ (tk 105 rfl)) (hw _ (tk 2 rfl)) (by decide) (by decide)) (g := (mkF m 3 (lt14 x p1 p2) [(.int p2), (.int p1), (.ref x)])) rfl (by rw [hml]; rfl) (Steps.refl _) (a := x) (by rw [e0]; exact q449) q449' (argsL := [(.int p1), (.int p2)]) (rest := []) (lenOf pd_5 rfl) rfl (by show 2 * 0 + _ ≤ _; exact Nat.le_of_eq rfl) (hb hby d15_3) (fun _ _ => ⟨rfl, e0, (by decide : 0 + 0 ≤ _), (by decide : 0 + 0 ≤ _)⟩)
  dsimp only [Pt.U, Pt.locs, Pt.cells, Pt.slots] at X449 l449 y449 z449 st449 hQ449
  rw [l449, y449, z449] at X449
  obtain ⟨rv449, N449q, O449, B449⟩ := hQ449
  subst rv449
  have N449 := Fr.app N0 N449q
  have pre451 : Cm p e below E0 (T449.setTop (mkF m 6 (lt14 x p1 p2) [(.int v449)])) := fun t kt => by
    refine pre0 t ?_
    show Sp p e below s₁ (mkF m 0 (lt14 x p1 p2) []) _
    refine XS.aloadN X0.here hx rfl (hb hby d15_0) rfl rfl ?_
    refine XS.iloadN X0.here hx rfl (hb hby d15_1) rfl ?_
    show Sp p e below s₁ (mkF m 2 (lt14 x p1 p2) [(.int p1), (.ref x)]) _
    refine XS.iloadN X0.here hx rfl (hb hby d15_2) rfl ?_
    show Sp p e below s₁ (mkF m 3 (lt14 x p1 p2) [(.int p2), (.int p1), (.ref x)]) _
    refine st449.trans ?_
    show Sp p e below T449 (mkF m 6 (lt14 x p1 p2) [(.int v449)]) _
    exact kt
  by_cases hc452 : v449 = (0 : Int32)
  · rw [own_eqT hc452] at hf450
    obtain ⟨rfl, rfl⟩ := own_ret hf450
    obtain ⟨fs, hr, hrun, hended, hW, hsame⟩ := X449.leave (v := some (.int (0 : Int32))) (fun h => by rw [Bd.returns] at h; cases h) (BodyLoose.notSynchronized Bd)
    refine hno ⟨_, _, pre451 _ ?_, hrun, hended, _, _, rfl, ?_, ⟨_, rfl⟩, hW, hsame.mono (by decide) (by decide)⟩
    · show Sp p e below T449 (mkF m 6 (lt14 x p1 p2) [(.int v449)]) _
      refine XS.ifYes X449.here hx rfl (pc0 := 6) (pc' := 20) rfl (hb hby d15_6) rfl ((if0 _ _).trans (teq hc452).1) (by decide) (by decide) ?_
      show Sp p e below T449 (mkF m 20 (lt14 x p1 p2) []) _
      refine XS.iconst X449.here hx rfl (hb hby d15_20) ?_
      show Sp p e below T449 (mkF m 21 (lt14 x p1 p2) [(.int (0 : Int32))]) _
      exact retN X449 hx (t := .boolean) Bd.returns (by simp) (hb hby d15_21) hr
    · show Q15 Z n0 ex x A K S0 nc _ _ _ T449.heap _
      exact ⟨rfl, N449, O449, B449⟩
  · rw [own_eqF hc452] at hf450
    obtain ⟨v722, M722, hc722, hf723⟩ := own_bnd hf450
    clear hf450
    obtain ⟨cq722, q722, q722'⟩ := B449.exa.cell
    obtain ⟨_, _, ⟨T722, L722, k722, n722⟩, -, X722, ⟨Lc722, hQ722, l722, y722, z722⟩, st722⟩ := X449.privateBack hx (y := Y37) hown (mvT hZ (hw _ (tk 118 rfl))) (mvT hZ (hw _ (tk 119 rfl))) (own_selP rfl (mvT hZ (hw _ (tk 1 rfl))) (Cond.privateMethod_at (mvP hZ (hw _ (tk 120 rfl)) (args := #[]))) (mvT hZ (hw _ (tk 119 rfl))) (by decide)) (Cond.privateMethod_at (mvP hZ (hw _ (tk 120 rfl)) (args := #[]))) (mvT hZ (hw _ (tk 121 rfl))) (by decide) (backOf (W := 0) (rm19 l Z a0 hw [] hSl ex x A K S0 nc M449 v722 M722 T449.heap n0 O449 B449 hc722) hZ (hw _ (tk 121 rfl)) (hw _ (tk 2 rfl)) (by decide) (by decide)) (g := (mkF m 10 (lt14 x p1 p2) [(.ref x)])) rfl (by rw [hml]; rfl) (Steps.refl _) (a := x) q722 q722' (argsL := []) (rest := []) (lenOf pd_9 rfl) rfl (by show 2 * 0 + _ ≤ _; exact Nat.le_of_eq rfl) (hb hby d15_10) (fun _ _ => ⟨rfl, rfl, (by decide : 0 + 0 ≤ _), (by decide : 0 + 0 ≤ _)⟩)
    dsimp only [Pt.U, Pt.locs, Pt.cells, Pt.slots] at X722 l722 y722 z722 st722 hQ722
    rw [l722, y722, z722] at X722
    obtain ⟨rv722, N722q, O722, B722⟩ := hQ722
    subst rv722
    have N722 := Fr.app N449 N722q
    have pre724 : Cm p e below E0 (T722.setTop (mkF m 13 (lt14 x p1 p2) [(.int v722)])) := fun t kt => by
      refine pre451 t ?_
      show Sp p e below T449 (mkF m 6 (lt14 x p1 p2) [(.int v449)]) _
      refine XS.ifNo X449.here hx rfl (hb hby d15_6) rfl ((if0 _ _).trans (feq hc452).1) ?_
      show Sp p e below T449 (mkF m 9 (lt14 x p1 p2) []) _
      refine XS.aloadN X449.here hx rfl (hb hby d15_9) rfl rfl ?_
      show Sp p e below T449 (mkF m 10 (lt14 x p1 p2) [(.ref x)]) _
      refine st722.trans ?_
      show Sp p e below T722 (mkF m 13 (lt14 x p1 p2) [(.int v722)]) _
      exact kt
    by_cases hc725 : v722 = (0 : Int32)
    · rw [own_eqT hc725] at hf723
      obtain ⟨rfl, rfl⟩ := own_ret hf723
      obtain ⟨fs, hr, hrun, hended, hW, hsame⟩ := X722.leave (v := some (.int (0 : Int32))) (fun h => by rw [Bd.returns] at h; cases h) (BodyLoose.notSynchronized Bd)
      refine hno ⟨_, _, pre724 _ ?_, hrun, hended, _, _, rfl, ?_, ⟨_, rfl⟩, hW, hsame.mono (by decide) (by decide)⟩
      · show Sp p e below T722 (mkF m 13 (lt14 x p1 p2) [(.int v722)]) _
        refine XS.ifYes X722.here hx rfl (pc0 := 13) (pc' := 20) rfl (hb hby d15_13) rfl ((if0 _ _).trans (teq hc725).1) (by decide) (by decide) ?_
        show Sp p e below T722 (mkF m 20 (lt14 x p1 p2) []) _
        refine XS.iconst X722.here hx rfl (hb hby d15_20) ?_
        show Sp p e below T722 (mkF m 21 (lt14 x p1 p2) [(.int (0 : Int32))]) _
        exact retN X722 hx (t := .boolean) Bd.returns (by simp) (hb hby d15_21) hr
      · show Q15 Z n0 ex x A K S0 nc _ _ _ T722.heap _
        exact ⟨rfl, N722, O722, B722⟩
    · rw [own_eqF hc725] at hf723
      obtain ⟨rfl, rfl⟩ := own_ret hf723
      obtain ⟨fs, hr, hrun, hended, hW, hsame⟩ := X722.leave (v := some (.int (1 : Int32))) (fun h => by rw [Bd.returns] at h; cases h) (BodyLoose.notSynchronized Bd)
      refine hno ⟨_, _, pre724 _ ?_, hrun, hended, _, _, rfl, ?_, ⟨_, rfl⟩, hW, hsame.mono (by decide) (by decide)⟩
      · show Sp p e below T722 (mkF m 13 (lt14 x p1 p2) [(.int v722)]) _
        refine XS.ifNo X722.here hx rfl (hb hby d15_13) rfl ((if0 _ _).trans (feq hc725).1) ?_
        show Sp p e below T722 (mkF m 16 (lt14 x p1 p2) []) _
        refine XS.iconst X722.here hx rfl (hb hby d15_16) ?_
        show Sp p e below T722 (mkF m 17 (lt14 x p1 p2) [(.int (1 : Int32))]) _
        refine XS.goto X722.here hx rfl (pc0 := 17) (pc' := 21) rfl (hb hby d15_17) (by decide) (by decide) ?_
        show Sp p e below T722 (mkF m 21 (lt14 x p1 p2) [(.int (1 : Int32))]) _
        exact retN X722 hx (t := .boolean) Bd.returns (by simp) (hb hby d15_21) hr
      · show Q15 Z n0 ex x A K S0 nc _ _ _ T722.heap _
        exact ⟨rfl, N722, O722, B722⟩
theorem pn_23 : plainName "com/example/onetree/onetree/EdgeStates" = true := by first | (simp [plainName, overriddenIn]; done) | decide +kernel
def f23 (nc : Nat) (M : MM) (p1 : Int32) (p2 : Int32) : Option (Int32 × MM) := bnd (f21 nc M p1 p2) fun v734 M734 => cnd (eqB v734 (0 : Int32)) (some ((0 : Int32), M734)) (bnd (f19 nc M734) fun v738 M738 => cnd (eqB v738 (0 : Int32)) (some ((0 : Int32), M738)) (some ((1 : Int32), M738)))
theorem ef_23 (m : MethodId) (x : Addr) (A : Nat → Addr) (p1 : Int32) (p2 : Int32) : entryFrame m #[(.ref x), (.int p1), (.int p2)] 3 = mkF m 0 #[.val (.ref x), .val (.int p1), .val (.int p2)] [] := by first | (simp [entryFrame, mkF, argsToLocals, Value.category]; done) | rfl
def Q23 (Z : State) (n0 : Nat) (ex : Bool) (x : Addr) (A : Nat → Addr) (K : Nat → ClassId) (S0 : Addr) (nc : Nat) (rv : Int32) (M' : MM) (v : Option Value) (h : Heap) (L : List Loc) : Prop := v = some (.int rv) ∧ Fr n0 L ∧ Old Z n0 h ∧ EB Z n0 ex h x A K S0 nc M'
set_option maxRecDepth 65536 in
set_option maxHeartbeats 40000000 in
theorem rm23 (l : Launch) (Z : State) (a0 : Array Value) (hw : ∀ d ∈ tables_1, d.before a0 Z = true) (ws : List Jvm.Cond) (hSl : SlotsOK Z) (ex : Bool) (x : Addr) (A : Nat → Addr) (K : Nat → ClassId) (S0 : Addr) (nc : Nat) (M : MM) (p1 : Int32) (p2 : Int32) (rv : Int32) (M' : MM) (h0 : Heap) (n0 : Nat) (O0 : Old Z n0 h0) (B0 : EB Z n0 ex h0 x A K S0 nc M) (hf : f23 nc M p1 p2 = some (rv, M')) :
    MetFree l Y39 (head1 (Jvm.Cond.code Y39 prog_7_method_12_code 3 (some .boolean) :: ws) ({ frames := 5, cells := 0, slots := 0, locals := 77 } : Room)) (fun a U => a = #[(.ref x), (.int p1), (.int p2)] ∧ Z.Warmed39 U.vm ∧ U.heap = h0) (fun _ _ _ _ _ => True) (fun _ U o U' => ∃ v L, o = .returned v ∧ Q23 Z n0 ex x A K S0 nc rv M' v U'.heap L ∧ FrameEnd U o U' L ({ frames := 5, cells := 0, slots := 0, locals := 77 } : Room).cells ({ frames := 5, cells := 0, slots := 0, locals := 77 } : Room).slots) := by
  refine MetFree.of_bodySF (plainFor_of_name pn_23) hisR ?_
  intro p e s m args below meth c s₁ Bd hml0 hP hK
  obtain ⟨rfl, hZ, hh⟩ := hP
  have hx := Bd.exec
  have hby := Bd.bytes
  have hml : c.maxLocals = 3 := hml0
  have hown : s.vm.findClass "com/example/onetree/onetree/EdgeStates" = some m.cls := findClass_of_methodNamed Bd.named
  have X0 : Stand p l e ({ frames := 5, cells := 0, slots := 0, locals := 77 } : Room) s m #[(.ref x), (.int p1), (.int p2)] below meth c s₁ [] 0 0 := Stand.of_body Bd
  have e0 : s₁.heap = h0 := by rw [← hh, Bd.state]; rfl
  have N0 := Fr.nil n0
  have pre0 : ∀ t, Steps p.tables e below (s₁.setTop (mkF m 0 #[.val (.ref x), .val (.int p1), .val (.int p2)] [])) t → Steps p.tables e below (s₁.setTop (entryFrame m #[(.ref x), (.int p1), (.int p2)] 3)) t := fun t k => castTop (ef_23 m x A p1 p2) k
  generalize hE0 : s₁.setTop (entryFrame m #[(.ref x), (.int p1), (.int p2)] 3) = E0 at pre0 ⊢
  apply Classical.byContradiction
  intro hno
  unfold f23 at hf
  obtain ⟨v734, M734, hc734, hf735⟩ := own_bnd hf
  clear hf
  obtain ⟨cq734, q734, q734'⟩ := B0.exa.cell
  obtain ⟨_, _, ⟨T734, L734, k734, n734⟩, -, X734, ⟨Lc734, hQ734, l734, y734, z734⟩, st734⟩ := X0.privateBack hx (y := Y32) hown (mvT hZ (hw _ (tk 126 rfl))) (mvT hZ (hw _ (tk 127 rfl))) (own_selP rfl (mvT hZ (hw _ (tk 1 rfl))) (Cond.privateMethod_at (mvP hZ (hw _ (tk 128 rfl)) (args := #[]))) (mvT hZ (hw _ (tk 127 rfl))) (by decide)) (Cond.privateMethod_at (mvP hZ (hw _ (tk 128 rfl)) (args := #[]))) (mvT hZ (hw _ (tk 129 rfl))) (by decide) (backOf (W := 0) (rm21 l Z a0 hw [] hSl ex x A K S0 nc M p1 p2 v734 M734 h0 n0 O0 B0 hc734) hZ (hw _ (tk 129 rfl)) (hw _ (tk 2 rfl)) (by decide) (by decide)) (g := (mkF m 3 (lt14 x p1 p2) [(.int p2), (.int p1), (.ref x)])) rfl (by rw [hml]; rfl) (Steps.refl _) (a := x) (by rw [e0]; exact q734) q734' (argsL := [(.int p1), (.int p2)]) (rest := []) (lenOf pd_5 rfl) rfl (by show 2 * 0 + _ ≤ _; exact Nat.le_of_eq rfl) (hb hby d23_3) (fun _ _ => ⟨rfl, e0, (by decide : 0 + 0 ≤ _), (by decide : 0 + 0 ≤ _)⟩)
  dsimp only [Pt.U, Pt.locs, Pt.cells, Pt.slots] at X734 l734 y734 z734 st734 hQ734
  rw [l734, y734, z734] at X734
  obtain ⟨rv734, N734q, O734, B734⟩ := hQ734
  subst rv734
  have N734 := Fr.app N0 N734q
  have pre736 : Cm p e below E0 (T734.setTop (mkF m 6 (lt14 x p1 p2) [(.int v734)])) := fun t kt => by
    refine pre0 t ?_
    show Sp p e below s₁ (mkF m 0 (lt14 x p1 p2) []) _
    refine XS.aloadN X0.here hx rfl (hb hby d23_0) rfl rfl ?_
    refine XS.iloadN X0.here hx rfl (hb hby d23_1) rfl ?_
    show Sp p e below s₁ (mkF m 2 (lt14 x p1 p2) [(.int p1), (.ref x)]) _
    refine XS.iloadN X0.here hx rfl (hb hby d23_2) rfl ?_
    show Sp p e below s₁ (mkF m 3 (lt14 x p1 p2) [(.int p2), (.int p1), (.ref x)]) _
    refine st734.trans ?_
    show Sp p e below T734 (mkF m 6 (lt14 x p1 p2) [(.int v734)]) _
    exact kt
  by_cases hc737 : v734 = (0 : Int32)
  · rw [own_eqT hc737] at hf735
    obtain ⟨rfl, rfl⟩ := own_ret hf735
    obtain ⟨fs, hr, hrun, hended, hW, hsame⟩ := X734.leave (v := some (.int (0 : Int32))) (fun h => by rw [Bd.returns] at h; cases h) (BodyLoose.notSynchronized Bd)
    refine hno ⟨_, _, pre736 _ ?_, hrun, hended, _, _, rfl, ?_, ⟨_, rfl⟩, hW, hsame.mono (by decide) (by decide)⟩
    · show Sp p e below T734 (mkF m 6 (lt14 x p1 p2) [(.int v734)]) _
      refine XS.ifYes X734.here hx rfl (pc0 := 6) (pc' := 20) rfl (hb hby d23_6) rfl ((if0 _ _).trans (teq hc737).1) (by decide) (by decide) ?_
      show Sp p e below T734 (mkF m 20 (lt14 x p1 p2) []) _
      refine XS.iconst X734.here hx rfl (hb hby d23_20) ?_
      show Sp p e below T734 (mkF m 21 (lt14 x p1 p2) [(.int (0 : Int32))]) _
      exact retN X734 hx (t := .boolean) Bd.returns (by simp) (hb hby d23_21) hr
    · show Q23 Z n0 ex x A K S0 nc _ _ _ T734.heap _
      exact ⟨rfl, N734, O734, B734⟩
  · rw [own_eqF hc737] at hf735
    obtain ⟨v738, M738, hc738, hf739⟩ := own_bnd hf735
    clear hf735
    obtain ⟨cq738, q738, q738'⟩ := B734.exa.cell
    obtain ⟨_, _, ⟨T738, L738, k738, n738⟩, -, X738, ⟨Lc738, hQ738, l738, y738, z738⟩, st738⟩ := X734.privateBack hx (y := Y37) hown (mvT hZ (hw _ (tk 118 rfl))) (mvT hZ (hw _ (tk 119 rfl))) (own_selP rfl (mvT hZ (hw _ (tk 1 rfl))) (Cond.privateMethod_at (mvP hZ (hw _ (tk 120 rfl)) (args := #[]))) (mvT hZ (hw _ (tk 119 rfl))) (by decide)) (Cond.privateMethod_at (mvP hZ (hw _ (tk 120 rfl)) (args := #[]))) (mvT hZ (hw _ (tk 121 rfl))) (by decide) (backOf (W := 0) (rm19 l Z a0 hw [] hSl ex x A K S0 nc M734 v738 M738 T734.heap n0 O734 B734 hc738) hZ (hw _ (tk 121 rfl)) (hw _ (tk 2 rfl)) (by decide) (by decide)) (g := (mkF m 10 (lt14 x p1 p2) [(.ref x)])) rfl (by rw [hml]; rfl) (Steps.refl _) (a := x) q738 q738' (argsL := []) (rest := []) (lenOf pd_9 rfl) rfl (by show 2 * 0 + _ ≤ _; exact Nat.le_of_eq rfl) (hb hby d23_10) (fun _ _ => ⟨rfl, rfl, (by decide : 0 + 0 ≤ _), (by decide : 0 + 0 ≤ _)⟩)
    dsimp only [Pt.U, Pt.locs, Pt.cells, Pt.slots] at X738 l738 y738 z738 st738 hQ738
    rw [l738, y738, z738] at X738
    obtain ⟨rv738, N738q, O738, B738⟩ := hQ738
    subst rv738
    have N738 := Fr.app N734 N738q
    have pre740 : Cm p e below E0 (T738.setTop (mkF m 13 (lt14 x p1 p2) [(.int v738)])) := fun t kt => by
      refine pre736 t ?_
      show Sp p e below T734 (mkF m 6 (lt14 x p1 p2) [(.int v734)]) _
      refine XS.ifNo X734.here hx rfl (hb hby d23_6) rfl ((if0 _ _).trans (feq hc737).1) ?_
      show Sp p e below T734 (mkF m 9 (lt14 x p1 p2) []) _
      refine XS.aloadN X734.here hx rfl (hb hby d23_9) rfl rfl ?_
      show Sp p e below T734 (mkF m 10 (lt14 x p1 p2) [(.ref x)]) _
      refine st738.trans ?_
      show Sp p e below T738 (mkF m 13 (lt14 x p1 p2) [(.int v738)]) _
      exact kt
    by_cases hc741 : v738 = (0 : Int32)
    · rw [own_eqT hc741] at hf739
      obtain ⟨rfl, rfl⟩ := own_ret hf739
      obtain ⟨fs, hr, hrun, hended, hW, hsame⟩ := X738.leave (v := some (.int (0 : Int32))) (fun h => by rw [Bd.returns] at h; cases h) (BodyLoose.notSynchronized Bd)
      refine hno ⟨_, _, pre740 _ ?_, hrun, hended, _, _, rfl, ?_, ⟨_, rfl⟩, hW, hsame.mono (by decide) (by decide)⟩
      · show Sp p e below T738 (mkF m 13 (lt14 x p1 p2) [(.int v738)]) _
        refine XS.ifYes X738.here hx rfl (pc0 := 13) (pc' := 20) rfl (hb hby d23_13) rfl ((if0 _ _).trans (teq hc741).1) (by decide) (by decide) ?_
        show Sp p e below T738 (mkF m 20 (lt14 x p1 p2) []) _
        refine XS.iconst X738.here hx rfl (hb hby d23_20) ?_
        show Sp p e below T738 (mkF m 21 (lt14 x p1 p2) [(.int (0 : Int32))]) _
        exact retN X738 hx (t := .boolean) Bd.returns (by simp) (hb hby d23_21) hr
      · show Q23 Z n0 ex x A K S0 nc _ _ _ T738.heap _
        exact ⟨rfl, N738, O738, B738⟩
    · rw [own_eqF hc741] at hf739
      obtain ⟨rfl, rfl⟩ := own_ret hf739
      obtain ⟨fs, hr, hrun, hended, hW, hsame⟩ := X738.leave (v := some (.int (1 : Int32))) (fun h => by rw [Bd.returns] at h; cases h) (BodyLoose.notSynchronized Bd)
      refine hno ⟨_, _, pre740 _ ?_, hrun, hended, _, _, rfl, ?_, ⟨_, rfl⟩, hW, hsame.mono (by decide) (by decide)⟩
      · show Sp p e below T738 (mkF m 13 (lt14 x p1 p2) [(.int v738)]) _
        refine XS.ifNo X738.here hx rfl (hb hby d23_13) rfl ((if0 _ _).trans (feq hc741).1) ?_
        show Sp p e below T738 (mkF m 16 (lt14 x p1 p2) []) _
        refine XS.iconst X738.here hx rfl (hb hby d23_16) ?_
        show Sp p e below T738 (mkF m 17 (lt14 x p1 p2) [(.int (1 : Int32))]) _
        refine XS.goto X738.here hx rfl (pc0 := 17) (pc' := 21) rfl (hb hby d23_17) (by decide) (by decide) ?_
        show Sp p e below T738 (mkF m 21 (lt14 x p1 p2) [(.int (1 : Int32))]) _
        exact retN X738 hx (t := .boolean) Bd.returns (by simp) (hb hby d23_21) hr
      · show Q23 Z n0 ex x A K S0 nc _ _ _ T738.heap _
        exact ⟨rfl, N738, O738, B738⟩
theorem pn_6 : plainName "com/example/onetree/onetree/EdgeStatesListNeighboursPinLaw" = true := by first | (simp [plainName, overriddenIn]; done) | decide +kernel
def f6 (nc : Nat) (M : MM) (p1 : Int32) (p2 : Int32) (p3 : Int32) : Option (Int32 × MM) := cnd (eqB p1 (1 : Int32)) (bnd (f15 nc M (p2 &&& (3 : Int32)) ((((p2 &&& (3 : Int32)) + (1 : Int32)) + ((p3 &&& (2147483647 : Int32)) % (3 : Int32))) &&& (3 : Int32))) fun v726 M726 => some (0, M726)) (cnd (eqB p1 (3 : Int32)) (bnd (f15 nc M (p2 &&& (3 : Int32)) ((((p2 &&& (3 : Int32)) + (1 : Int32)) + ((p3 &&& (2147483647 : Int32)) % (3 : Int32))) &&& (3 : Int32))) fun v730 M730 => some (0, M730)) (cnd (eqB p1 (2 : Int32)) (bnd (f23 nc M (p2 &&& (3 : Int32)) ((((p2 &&& (3 : Int32)) + (1 : Int32)) + ((p3 &&& (2147483647 : Int32)) % (3 : Int32))) &&& (3 : Int32))) fun v742 M742 => some (0, M742)) (some (0, M))))
theorem ef_6 (m : MethodId) (x : Addr) (A : Nat → Addr) (p1 : Int32) (p2 : Int32) (p3 : Int32) : entryFrame m #[(.ref x), (.int p1), (.int p2), (.int p3)] 6 = mkF m 0 #[.val (.ref x), .val (.int p1), .val (.int p2), .val (.int p3), .unset, .unset] [] := by first | (simp [entryFrame, mkF, argsToLocals, Value.category]; done) | rfl
def Q6 (Z : State) (n0 : Nat) (ex : Bool) (x : Addr) (A : Nat → Addr) (K : Nat → ClassId) (S0 : Addr) (nc : Nat) (rv : Int32) (M' : MM) (v : Option Value) (h : Heap) (L : List Loc) : Prop := v = none ∧ Fr n0 L ∧ Old Z n0 h ∧ EB Z n0 ex h x A K S0 nc M'
set_option maxRecDepth 65536 in
set_option maxHeartbeats 40000000 in
theorem rm6 (l : Launch) (Z : State) (a0 : Array Value) (hw : ∀ d ∈ tables_1, d.before a0 Z = true) (ws : List Jvm.Cond) (hSl : SlotsOK Z) (ex : Bool) (x : Addr) (A : Nat → Addr) (K : Nat → ClassId) (S0 : Addr) (nc : Nat) (M : MM) (p1 : Int32) (p2 : Int32) (p3 : Int32) (rv : Int32) (M' : MM) (h0 : Heap) (n0 : Nat) (O0 : Old Z n0 h0) (B0 : EB Z n0 ex h0 x A K S0 nc M) (hf : f6 nc M p1 p2 p3 = some (rv, M')) :
    MetFree l Y40 (head1 (Jvm.Cond.code Y40 method_3_code 6 none :: ws) ({ frames := 6, cells := 0, slots := 0, locals := 91 } : Room)) (fun a U => a = #[(.ref x), (.int p1), (.int p2), (.int p3)] ∧ Z.Warmed39 U.vm ∧ U.heap = h0) (fun _ _ _ _ _ => True) (fun _ U o U' => ∃ v L, o = .returned v ∧ Q6 Z n0 ex x A K S0 nc rv M' v U'.heap L ∧ FrameEnd U o U' L ({ frames := 6, cells := 0, slots := 0, locals := 91 } : Room).cells ({ frames := 6, cells := 0, slots := 0, locals := 91 } : Room).slots) := by
  refine MetFree.of_bodySF (plainFor_of_name pn_6) hisR ?_
  intro p e s m args below meth c s₁ Bd hml0 hP hK
  obtain ⟨rfl, hZ, hh⟩ := hP
  have hx := Bd.exec
  have hby := Bd.bytes
  have hml : c.maxLocals = 6 := hml0
  have hown : s.vm.findClass "com/example/onetree/onetree/EdgeStatesListNeighboursPinLaw" = some m.cls := findClass_of_methodNamed Bd.named
  have X0 : Stand p l e ({ frames := 6, cells := 0, slots := 0, locals := 91 } : Room) s m #[(.ref x), (.int p1), (.int p2), (.int p3)] below meth c s₁ [] 0 0 := Stand.of_body Bd
  have e0 : s₁.heap = h0 := by rw [← hh, Bd.state]; rfl
  have N0 := Fr.nil n0
  have pre0 : ∀ t, Steps p.tables e below (s₁.setTop (mkF m 0 #[.val (.ref x), .val (.int p1), .val (.int p2), .val (.int p3), .unset, .unset] [])) t → Steps p.tables e below (s₁.setTop (entryFrame m #[(.ref x), (.int p1), (.int p2), (.int p3)] 6)) t := fun t k => castTop (ef_6 m x A p1 p2 p3) k
  generalize hE0 : s₁.setTop (entryFrame m #[(.ref x), (.int p1), (.int p2), (.int p3)] 6) = E0 at pre0 ⊢
  apply Classical.byContradiction
  intro hno
  unfold f6 at hf
  have pre342 : Cm p e below E0 (s₁.setTop (mkF m 22 (lt13 x p1 p2 p3 (p2 &&& (3 : Int32)) ((((p2 &&& (3 : Int32)) + (1 : Int32)) + ((p3 &&& (2147483647 : Int32)) % (3 : Int32))) &&& (3 : Int32))) [(.int (1 : Int32)), (.int p1)])) := fun t kt => by
    refine pre0 t ?_
    show Sp p e below s₁ (mkF m 0 (lt11 x p1 p2 p3) []) _
    refine XS.iloadN X0.here hx rfl (hb hby d6_0) rfl ?_
    refine XS.iconst X0.here hx rfl (hb hby d6_1) ?_
    show Sp p e below s₁ (mkF m 2 (lt11 x p1 p2 p3) [(.int (3 : Int32)), (.int p2)]) _
    refine XS.iand X0.here hx rfl (hb hby d6_2) rfl ?_
    refine XS.istore X0.here hx rfl (hb hby d6_3) rfl (l' := (lt12 x p1 p2 p3 (p2 &&& (3 : Int32)))) rfl ?_
    show Sp p e below s₁ (mkF m 5 (lt12 x p1 p2 p3 (p2 &&& (3 : Int32))) []) _
    refine XS.iload X0.here hx rfl (hb hby d6_5) rfl ?_
    refine XS.iconst X0.here hx rfl (hb hby d6_7) ?_
    show Sp p e below s₁ (mkF m 8 (lt12 x p1 p2 p3 (p2 &&& (3 : Int32))) [(.int (1 : Int32)), (.int (p2 &&& (3 : Int32)))]) _
    refine XS.iadd X0.here hx rfl (hb hby d6_8) rfl ?_
    refine XS.iloadN X0.here hx rfl (hb hby d6_9) rfl ?_
    show Sp p e below s₁ (mkF m 10 (lt12 x p1 p2 p3 (p2 &&& (3 : Int32))) [(.int p3), (.int ((p2 &&& (3 : Int32)) + (1 : Int32)))]) _
    refine X0.ldcInt hx hown (mvT hZ (hw _ (tk 56 rfl))) (g := (mkF m 10 (lt12 x p1 p2 p3 (p2 &&& (3 : Int32))) [(.int p3), (.int ((p2 &&& (3 : Int32)) + (1 : Int32)))])) rfl (hb hby d6_10) _ ?_
    show Sp p e below s₁ (mkF m 12 (lt12 x p1 p2 p3 (p2 &&& (3 : Int32))) [(.int (2147483647 : Int32)), (.int p3), (.int ((p2 &&& (3 : Int32)) + (1 : Int32)))]) _
    refine XS.iand X0.here hx rfl (hb hby d6_12) rfl ?_
    refine XS.iconst X0.here hx rfl (hb hby d6_13) ?_
    show Sp p e below s₁ (mkF m 14 (lt12 x p1 p2 p3 (p2 &&& (3 : Int32))) [(.int (3 : Int32)), (.int (p3 &&& (2147483647 : Int32))), (.int ((p2 &&& (3 : Int32)) + (1 : Int32)))]) _
    refine iremM X0 hx rfl (hb hby d6_14) rfl (by decide : ¬ ((3 : Int32) = (0 : Int32))) ?_
    show Sp p e below s₁ (mkF m 15 (lt12 x p1 p2 p3 (p2 &&& (3 : Int32))) [(.int ((p3 &&& (2147483647 : Int32)) % (3 : Int32))), (.int ((p2 &&& (3 : Int32)) + (1 : Int32)))]) _
    refine XS.iadd X0.here hx rfl (hb hby d6_15) rfl ?_
    refine XS.iconst X0.here hx rfl (hb hby d6_16) ?_
    show Sp p e below s₁ (mkF m 17 (lt12 x p1 p2 p3 (p2 &&& (3 : Int32))) [(.int (3 : Int32)), (.int (((p2 &&& (3 : Int32)) + (1 : Int32)) + ((p3 &&& (2147483647 : Int32)) % (3 : Int32))))]) _
    refine XS.iand X0.here hx rfl (hb hby d6_17) rfl ?_
    refine XS.istore X0.here hx rfl (hb hby d6_18) rfl (l' := (lt13 x p1 p2 p3 (p2 &&& (3 : Int32)) ((((p2 &&& (3 : Int32)) + (1 : Int32)) + ((p3 &&& (2147483647 : Int32)) % (3 : Int32))) &&& (3 : Int32)))) rfl ?_
    show Sp p e below s₁ (mkF m 20 (lt13 x p1 p2 p3 (p2 &&& (3 : Int32)) ((((p2 &&& (3 : Int32)) + (1 : Int32)) + ((p3 &&& (2147483647 : Int32)) % (3 : Int32))) &&& (3 : Int32))) []) _
    refine XS.iloadN X0.here hx rfl (hb hby d6_20) rfl ?_
    refine XS.iconst X0.here hx rfl (hb hby d6_21) ?_
    show Sp p e below s₁ (mkF m 22 (lt13 x p1 p2 p3 (p2 &&& (3 : Int32)) ((((p2 &&& (3 : Int32)) + (1 : Int32)) + ((p3 &&& (2147483647 : Int32)) % (3 : Int32))) &&& (3 : Int32))) [(.int (1 : Int32)), (.int p1)]) _
    exact kt
  by_cases hc343 : p1 = (1 : Int32)
  · rw [own_eqT hc343] at hf
    obtain ⟨v726, M726, hc726, hf727⟩ := own_bnd hf
    clear hf
    obtain ⟨cq726, kq726, q726a, q726b, q726c⟩ := isOf hZ e0 B0.exa
    obtain ⟨_, _, ⟨T726, L726, k726, n726⟩, -, X726, ⟨Lc726, hQ726, l726, y726, z726⟩, st726⟩ := X0.virtualBack hx (y := Y38) (z := Y38) hown (mvT hZ (hw _ (tk 97 rfl))) (mvT hZ (hw _ (tk 98 rfl))) (notFace_of_selects (args := #[]) (mvT hZ (hw _ (tk 100 rfl)))) (mvT hZ (hw _ (tk 100 rfl))) (mvT hZ (hw _ (tk 99 rfl))) (by decide) (backOf (W := 0) (rm15 l Z a0 hw [] hSl ex x A K S0 nc M (p2 &&& (3 : Int32)) ((((p2 &&& (3 : Int32)) + (1 : Int32)) + ((p3 &&& (2147483647 : Int32)) % (3 : Int32))) &&& (3 : Int32)) v726 M726 h0 n0 O0 B0 hc726) hZ (hw _ (tk 101 rfl)) (hw _ (tk 2 rfl)) (by decide) (by decide)) q726a q726c (g := (mkF m 35 (lt13 x p1 p2 p3 (p2 &&& (3 : Int32)) ((((p2 &&& (3 : Int32)) + (1 : Int32)) + ((p3 &&& (2147483647 : Int32)) % (3 : Int32))) &&& (3 : Int32))) [(.int ((((p2 &&& (3 : Int32)) + (1 : Int32)) + ((p3 &&& (2147483647 : Int32)) % (3 : Int32))) &&& (3 : Int32))), (.int (p2 &&& (3 : Int32))), (.ref x)])) rfl (by rw [hml]; rfl) (Steps.refl _) (argsL := [(.int (p2 &&& (3 : Int32))), (.int ((((p2 &&& (3 : Int32)) + (1 : Int32)) + ((p3 &&& (2147483647 : Int32)) % (3 : Int32))) &&& (3 : Int32)))]) (rest := []) (lenOf pd_5 rfl) rfl (by show 2 * 0 + _ ≤ _; exact Nat.le_of_eq rfl) (hb hby d6_35) (fun _ _ => ⟨rfl, e0, (by decide : 0 + 0 ≤ _), (by decide : 0 + 0 ≤ _)⟩)
    dsimp only [Pt.U, Pt.locs, Pt.cells, Pt.slots] at X726 l726 y726 z726 st726 hQ726
    rw [l726, y726, z726] at X726
    obtain ⟨rv726, N726q, O726, B726⟩ := hQ726
    subst rv726
    have N726 := Fr.app N0 N726q
    obtain ⟨rfl, rfl⟩ := own_ret hf727
    obtain ⟨fs, hr, hrun, hended, hW, hsame⟩ := X726.leave (v := none) (fun _ => rfl) (BodyLoose.notSynchronized Bd)
    refine hno ⟨_, _, pre342 _ ?_, hrun, hended, _, _, rfl, ?_, ⟨_, rfl⟩, hW, hsame.mono (by decide) (by decide)⟩
    · show Sp p e below s₁ (mkF m 22 (lt13 x p1 p2 p3 (p2 &&& (3 : Int32)) ((((p2 &&& (3 : Int32)) + (1 : Int32)) + ((p3 &&& (2147483647 : Int32)) % (3 : Int32))) &&& (3 : Int32))) [(.int (1 : Int32)), (.int p1)]) _
      refine XS.icmpYes X0.here hx rfl (pc0 := 22) (pc' := 30) rfl (hb hby d6_22) rfl (teq hc343).1 (by decide) (by decide) ?_
      show Sp p e below s₁ (mkF m 30 (lt13 x p1 p2 p3 (p2 &&& (3 : Int32)) ((((p2 &&& (3 : Int32)) + (1 : Int32)) + ((p3 &&& (2147483647 : Int32)) % (3 : Int32))) &&& (3 : Int32))) []) _
      refine XS.aloadN X0.here hx rfl (hb hby d6_30) rfl rfl ?_
      refine XS.iload X0.here hx rfl (hb hby d6_31) rfl ?_
      show Sp p e below s₁ (mkF m 33 (lt13 x p1 p2 p3 (p2 &&& (3 : Int32)) ((((p2 &&& (3 : Int32)) + (1 : Int32)) + ((p3 &&& (2147483647 : Int32)) % (3 : Int32))) &&& (3 : Int32))) [(.int (p2 &&& (3 : Int32))), (.ref x)]) _
      refine XS.iload X0.here hx rfl (hb hby d6_33) rfl ?_
      show Sp p e below s₁ (mkF m 35 (lt13 x p1 p2 p3 (p2 &&& (3 : Int32)) ((((p2 &&& (3 : Int32)) + (1 : Int32)) + ((p3 &&& (2147483647 : Int32)) % (3 : Int32))) &&& (3 : Int32))) [(.int ((((p2 &&& (3 : Int32)) + (1 : Int32)) + ((p3 &&& (2147483647 : Int32)) % (3 : Int32))) &&& (3 : Int32))), (.int (p2 &&& (3 : Int32))), (.ref x)]) _
      refine st726.trans ?_
      show Sp p e below T726 (mkF m 38 (lt13 x p1 p2 p3 (p2 &&& (3 : Int32)) ((((p2 &&& (3 : Int32)) + (1 : Int32)) + ((p3 &&& (2147483647 : Int32)) % (3 : Int32))) &&& (3 : Int32))) [(.int v726)]) _
      refine XS.pop X726.here hx rfl (hb hby d6_38) rfl rfl ?_
      show Sp p e below T726 (mkF m 39 (lt13 x p1 p2 p3 (p2 &&& (3 : Int32)) ((((p2 &&& (3 : Int32)) + (1 : Int32)) + ((p3 &&& (2147483647 : Int32)) % (3 : Int32))) &&& (3 : Int32))) []) _
      refine XS.goto X726.here hx rfl (pc0 := 39) (pc' := 56) rfl (hb hby d6_39) (by decide) (by decide) ?_
      show Sp p e below T726 (mkF m 56 (lt13 x p1 p2 p3 (p2 &&& (3 : Int32)) ((((p2 &&& (3 : Int32)) + (1 : Int32)) + ((p3 &&& (2147483647 : Int32)) % (3 : Int32))) &&& (3 : Int32))) []) _
      exact X726.returnOut hx Bd.returns (hb hby d6_56) hr
    · show Q6 Z n0 ex x A K S0 nc _ _ _ T726.heap _
      exact ⟨rfl, N726, O726, B726⟩
  · rw [own_eqF hc343] at hf
    have pre728 : Cm p e below E0 (s₁.setTop (mkF m 27 (lt13 x p1 p2 p3 (p2 &&& (3 : Int32)) ((((p2 &&& (3 : Int32)) + (1 : Int32)) + ((p3 &&& (2147483647 : Int32)) % (3 : Int32))) &&& (3 : Int32))) [(.int (3 : Int32)), (.int p1)])) := fun t kt => by
      refine pre342 t ?_
      show Sp p e below s₁ (mkF m 22 (lt13 x p1 p2 p3 (p2 &&& (3 : Int32)) ((((p2 &&& (3 : Int32)) + (1 : Int32)) + ((p3 &&& (2147483647 : Int32)) % (3 : Int32))) &&& (3 : Int32))) [(.int (1 : Int32)), (.int p1)]) _
      refine XS.icmpNo X0.here hx rfl (hb hby d6_22) rfl (feq hc343).1 ?_
      show Sp p e below s₁ (mkF m 25 (lt13 x p1 p2 p3 (p2 &&& (3 : Int32)) ((((p2 &&& (3 : Int32)) + (1 : Int32)) + ((p3 &&& (2147483647 : Int32)) % (3 : Int32))) &&& (3 : Int32))) []) _
      refine XS.iloadN X0.here hx rfl (hb hby d6_25) rfl ?_
      refine XS.iconst X0.here hx rfl (hb hby d6_26) ?_
      show Sp p e below s₁ (mkF m 27 (lt13 x p1 p2 p3 (p2 &&& (3 : Int32)) ((((p2 &&& (3 : Int32)) + (1 : Int32)) + ((p3 &&& (2147483647 : Int32)) % (3 : Int32))) &&& (3 : Int32))) [(.int (3 : Int32)), (.int p1)]) _
      exact kt
    by_cases hc729 : p1 = (3 : Int32)
    · rw [own_eqT hc729] at hf
      obtain ⟨v730, M730, hc730, hf731⟩ := own_bnd hf
      clear hf
      obtain ⟨cq730, kq730, q730a, q730b, q730c⟩ := isOf hZ e0 B0.exa
      obtain ⟨_, _, ⟨T730, L730, k730, n730⟩, -, X730, ⟨Lc730, hQ730, l730, y730, z730⟩, st730⟩ := X0.virtualBack hx (y := Y38) (z := Y38) hown (mvT hZ (hw _ (tk 97 rfl))) (mvT hZ (hw _ (tk 98 rfl))) (notFace_of_selects (args := #[]) (mvT hZ (hw _ (tk 100 rfl)))) (mvT hZ (hw _ (tk 100 rfl))) (mvT hZ (hw _ (tk 99 rfl))) (by decide) (backOf (W := 0) (rm15 l Z a0 hw [] hSl ex x A K S0 nc M (p2 &&& (3 : Int32)) ((((p2 &&& (3 : Int32)) + (1 : Int32)) + ((p3 &&& (2147483647 : Int32)) % (3 : Int32))) &&& (3 : Int32)) v730 M730 h0 n0 O0 B0 hc730) hZ (hw _ (tk 101 rfl)) (hw _ (tk 2 rfl)) (by decide) (by decide)) q730a q730c (g := (mkF m 35 (lt13 x p1 p2 p3 (p2 &&& (3 : Int32)) ((((p2 &&& (3 : Int32)) + (1 : Int32)) + ((p3 &&& (2147483647 : Int32)) % (3 : Int32))) &&& (3 : Int32))) [(.int ((((p2 &&& (3 : Int32)) + (1 : Int32)) + ((p3 &&& (2147483647 : Int32)) % (3 : Int32))) &&& (3 : Int32))), (.int (p2 &&& (3 : Int32))), (.ref x)])) rfl (by rw [hml]; rfl) (Steps.refl _) (argsL := [(.int (p2 &&& (3 : Int32))), (.int ((((p2 &&& (3 : Int32)) + (1 : Int32)) + ((p3 &&& (2147483647 : Int32)) % (3 : Int32))) &&& (3 : Int32)))]) (rest := []) (lenOf pd_5 rfl) rfl (by show 2 * 0 + _ ≤ _; exact Nat.le_of_eq rfl) (hb hby d6_35) (fun _ _ => ⟨rfl, e0, (by decide : 0 + 0 ≤ _), (by decide : 0 + 0 ≤ _)⟩)
      dsimp only [Pt.U, Pt.locs, Pt.cells, Pt.slots] at X730 l730 y730 z730 st730 hQ730
      rw [l730, y730, z730] at X730
      obtain ⟨rv730, N730q, O730, B730⟩ := hQ730
      subst rv730
      have N730 := Fr.app N0 N730q
      obtain ⟨rfl, rfl⟩ := own_ret hf731
      obtain ⟨fs, hr, hrun, hended, hW, hsame⟩ := X730.leave (v := none) (fun _ => rfl) (BodyLoose.notSynchronized Bd)
      refine hno ⟨_, _, pre728 _ ?_, hrun, hended, _, _, rfl, ?_, ⟨_, rfl⟩, hW, hsame.mono (by decide) (by decide)⟩
      · show Sp p e below s₁ (mkF m 27 (lt13 x p1 p2 p3 (p2 &&& (3 : Int32)) ((((p2 &&& (3 : Int32)) + (1 : Int32)) + ((p3 &&& (2147483647 : Int32)) % (3 : Int32))) &&& (3 : Int32))) [(.int (3 : Int32)), (.int p1)]) _
        refine XS.icmpNo X0.here hx rfl (hb hby d6_27) rfl (teq hc729).2 ?_
        show Sp p e below s₁ (mkF m 30 (lt13 x p1 p2 p3 (p2 &&& (3 : Int32)) ((((p2 &&& (3 : Int32)) + (1 : Int32)) + ((p3 &&& (2147483647 : Int32)) % (3 : Int32))) &&& (3 : Int32))) []) _
        refine XS.aloadN X0.here hx rfl (hb hby d6_30) rfl rfl ?_
        refine XS.iload X0.here hx rfl (hb hby d6_31) rfl ?_
        show Sp p e below s₁ (mkF m 33 (lt13 x p1 p2 p3 (p2 &&& (3 : Int32)) ((((p2 &&& (3 : Int32)) + (1 : Int32)) + ((p3 &&& (2147483647 : Int32)) % (3 : Int32))) &&& (3 : Int32))) [(.int (p2 &&& (3 : Int32))), (.ref x)]) _
        refine XS.iload X0.here hx rfl (hb hby d6_33) rfl ?_
        show Sp p e below s₁ (mkF m 35 (lt13 x p1 p2 p3 (p2 &&& (3 : Int32)) ((((p2 &&& (3 : Int32)) + (1 : Int32)) + ((p3 &&& (2147483647 : Int32)) % (3 : Int32))) &&& (3 : Int32))) [(.int ((((p2 &&& (3 : Int32)) + (1 : Int32)) + ((p3 &&& (2147483647 : Int32)) % (3 : Int32))) &&& (3 : Int32))), (.int (p2 &&& (3 : Int32))), (.ref x)]) _
        refine st730.trans ?_
        show Sp p e below T730 (mkF m 38 (lt13 x p1 p2 p3 (p2 &&& (3 : Int32)) ((((p2 &&& (3 : Int32)) + (1 : Int32)) + ((p3 &&& (2147483647 : Int32)) % (3 : Int32))) &&& (3 : Int32))) [(.int v730)]) _
        refine XS.pop X730.here hx rfl (hb hby d6_38) rfl rfl ?_
        show Sp p e below T730 (mkF m 39 (lt13 x p1 p2 p3 (p2 &&& (3 : Int32)) ((((p2 &&& (3 : Int32)) + (1 : Int32)) + ((p3 &&& (2147483647 : Int32)) % (3 : Int32))) &&& (3 : Int32))) []) _
        refine XS.goto X730.here hx rfl (pc0 := 39) (pc' := 56) rfl (hb hby d6_39) (by decide) (by decide) ?_
        show Sp p e below T730 (mkF m 56 (lt13 x p1 p2 p3 (p2 &&& (3 : Int32)) ((((p2 &&& (3 : Int32)) + (1 : Int32)) + ((p3 &&& (2147483647 : Int32)) % (3 : Int32))) &&& (3 : Int32))) []) _
        exact X730.returnOut hx Bd.returns (hb hby d6_56) hr
      · show Q6 Z n0 ex x A K S0 nc _ _ _ T730.heap _
        exact ⟨rfl, N730, O730, B730⟩
    · rw [own_eqF hc729] at hf
      have pre732 : Cm p e below E0 (s₁.setTop (mkF m 44 (lt13 x p1 p2 p3 (p2 &&& (3 : Int32)) ((((p2 &&& (3 : Int32)) + (1 : Int32)) + ((p3 &&& (2147483647 : Int32)) % (3 : Int32))) &&& (3 : Int32))) [(.int (2 : Int32)), (.int p1)])) := fun t kt => by
        refine pre728 t ?_
        show Sp p e below s₁ (mkF m 27 (lt13 x p1 p2 p3 (p2 &&& (3 : Int32)) ((((p2 &&& (3 : Int32)) + (1 : Int32)) + ((p3 &&& (2147483647 : Int32)) % (3 : Int32))) &&& (3 : Int32))) [(.int (3 : Int32)), (.int p1)]) _
        refine XS.icmpYes X0.here hx rfl (pc0 := 27) (pc' := 42) rfl (hb hby d6_27) rfl (feq hc729).2 (by decide) (by decide) ?_
        show Sp p e below s₁ (mkF m 42 (lt13 x p1 p2 p3 (p2 &&& (3 : Int32)) ((((p2 &&& (3 : Int32)) + (1 : Int32)) + ((p3 &&& (2147483647 : Int32)) % (3 : Int32))) &&& (3 : Int32))) []) _
        refine XS.iloadN X0.here hx rfl (hb hby d6_42) rfl ?_
        refine XS.iconst X0.here hx rfl (hb hby d6_43) ?_
        show Sp p e below s₁ (mkF m 44 (lt13 x p1 p2 p3 (p2 &&& (3 : Int32)) ((((p2 &&& (3 : Int32)) + (1 : Int32)) + ((p3 &&& (2147483647 : Int32)) % (3 : Int32))) &&& (3 : Int32))) [(.int (2 : Int32)), (.int p1)]) _
        exact kt
      by_cases hc733 : p1 = (2 : Int32)
      · rw [own_eqT hc733] at hf
        obtain ⟨v742, M742, hc742, hf743⟩ := own_bnd hf
        clear hf
        obtain ⟨cq742, kq742, q742a, q742b, q742c⟩ := isOf hZ e0 B0.exa
        obtain ⟨_, _, ⟨T742, L742, k742, n742⟩, -, X742, ⟨Lc742, hQ742, l742, y742, z742⟩, st742⟩ := X0.virtualBack hx (y := Y39) (z := Y39) hown (mvT hZ (hw _ (tk 134 rfl))) (mvT hZ (hw _ (tk 135 rfl))) (notFace_of_selects (args := #[]) (mvT hZ (hw _ (tk 137 rfl)))) (mvT hZ (hw _ (tk 137 rfl))) (mvT hZ (hw _ (tk 136 rfl))) (by decide) (backOf (W := 0) (rm23 l Z a0 hw [] hSl ex x A K S0 nc M (p2 &&& (3 : Int32)) ((((p2 &&& (3 : Int32)) + (1 : Int32)) + ((p3 &&& (2147483647 : Int32)) % (3 : Int32))) &&& (3 : Int32)) v742 M742 h0 n0 O0 B0 hc742) hZ (hw _ (tk 138 rfl)) (hw _ (tk 2 rfl)) (by decide) (by decide)) q742a q742c (g := (mkF m 52 (lt13 x p1 p2 p3 (p2 &&& (3 : Int32)) ((((p2 &&& (3 : Int32)) + (1 : Int32)) + ((p3 &&& (2147483647 : Int32)) % (3 : Int32))) &&& (3 : Int32))) [(.int ((((p2 &&& (3 : Int32)) + (1 : Int32)) + ((p3 &&& (2147483647 : Int32)) % (3 : Int32))) &&& (3 : Int32))), (.int (p2 &&& (3 : Int32))), (.ref x)])) rfl (by rw [hml]; rfl) (Steps.refl _) (argsL := [(.int (p2 &&& (3 : Int32))), (.int ((((p2 &&& (3 : Int32)) + (1 : Int32)) + ((p3 &&& (2147483647 : Int32)) % (3 : Int32))) &&& (3 : Int32)))]) (rest := []) (lenOf pd_5 rfl) rfl (by show 2 * 0 + _ ≤ _; exact Nat.le_of_eq rfl) (hb hby d6_52) (fun _ _ => ⟨rfl, e0, (by decide : 0 + 0 ≤ _), (by decide : 0 + 0 ≤ _)⟩)
        dsimp only [Pt.U, Pt.locs, Pt.cells, Pt.slots] at X742 l742 y742 z742 st742 hQ742
        rw [l742, y742, z742] at X742
        obtain ⟨rv742, N742q, O742, B742⟩ := hQ742
        subst rv742
        have N742 := Fr.app N0 N742q
        obtain ⟨rfl, rfl⟩ := own_ret hf743
        obtain ⟨fs, hr, hrun, hended, hW, hsame⟩ := X742.leave (v := none) (fun _ => rfl) (BodyLoose.notSynchronized Bd)
        refine hno ⟨_, _, pre732 _ ?_, hrun, hended, _, _, rfl, ?_, ⟨_, rfl⟩, hW, hsame.mono (by decide) (by decide)⟩
        · show Sp p e below s₁ (mkF m 44 (lt13 x p1 p2 p3 (p2 &&& (3 : Int32)) ((((p2 &&& (3 : Int32)) + (1 : Int32)) + ((p3 &&& (2147483647 : Int32)) % (3 : Int32))) &&& (3 : Int32))) [(.int (2 : Int32)), (.int p1)]) _
          refine XS.icmpNo X0.here hx rfl (hb hby d6_44) rfl (teq hc733).2 ?_
          show Sp p e below s₁ (mkF m 47 (lt13 x p1 p2 p3 (p2 &&& (3 : Int32)) ((((p2 &&& (3 : Int32)) + (1 : Int32)) + ((p3 &&& (2147483647 : Int32)) % (3 : Int32))) &&& (3 : Int32))) []) _
          refine XS.aloadN X0.here hx rfl (hb hby d6_47) rfl rfl ?_
          refine XS.iload X0.here hx rfl (hb hby d6_48) rfl ?_
          show Sp p e below s₁ (mkF m 50 (lt13 x p1 p2 p3 (p2 &&& (3 : Int32)) ((((p2 &&& (3 : Int32)) + (1 : Int32)) + ((p3 &&& (2147483647 : Int32)) % (3 : Int32))) &&& (3 : Int32))) [(.int (p2 &&& (3 : Int32))), (.ref x)]) _
          refine XS.iload X0.here hx rfl (hb hby d6_50) rfl ?_
          show Sp p e below s₁ (mkF m 52 (lt13 x p1 p2 p3 (p2 &&& (3 : Int32)) ((((p2 &&& (3 : Int32)) + (1 : Int32)) + ((p3 &&& (2147483647 : Int32)) % (3 : Int32))) &&& (3 : Int32))) [(.int ((((p2 &&& (3 : Int32)) + (1 : Int32)) + ((p3 &&& (2147483647 : Int32)) % (3 : Int32))) &&& (3 : Int32))), (.int (p2 &&& (3 : Int32))), (.ref x)]) _
          refine st742.trans ?_
          show Sp p e below T742 (mkF m 55 (lt13 x p1 p2 p3 (p2 &&& (3 : Int32)) ((((p2 &&& (3 : Int32)) + (1 : Int32)) + ((p3 &&& (2147483647 : Int32)) % (3 : Int32))) &&& (3 : Int32))) [(.int v742)]) _
          refine XS.pop X742.here hx rfl (hb hby d6_55) rfl rfl ?_
          show Sp p e below T742 (mkF m 56 (lt13 x p1 p2 p3 (p2 &&& (3 : Int32)) ((((p2 &&& (3 : Int32)) + (1 : Int32)) + ((p3 &&& (2147483647 : Int32)) % (3 : Int32))) &&& (3 : Int32))) []) _
          exact X742.returnOut hx Bd.returns (hb hby d6_56) hr
        · show Q6 Z n0 ex x A K S0 nc _ _ _ T742.heap _
          exact ⟨rfl, N742, O742, B742⟩
      · rw [own_eqF hc733] at hf
        obtain ⟨rfl, rfl⟩ := own_ret hf
        obtain ⟨fs, hr, hrun, hended, hW, hsame⟩ := X0.leave (v := none) (fun _ => rfl) (BodyLoose.notSynchronized Bd)
        refine hno ⟨_, _, pre732 _ ?_, hrun, hended, _, _, rfl, ?_, ⟨_, rfl⟩, hW, hsame.mono (by decide) (by decide)⟩
        · show Sp p e below s₁ (mkF m 44 (lt13 x p1 p2 p3 (p2 &&& (3 : Int32)) ((((p2 &&& (3 : Int32)) + (1 : Int32)) + ((p3 &&& (2147483647 : Int32)) % (3 : Int32))) &&& (3 : Int32))) [(.int (2 : Int32)), (.int p1)]) _
          refine XS.icmpYes X0.here hx rfl (pc0 := 44) (pc' := 56) rfl (hb hby d6_44) rfl (feq hc733).2 (by decide) (by decide) ?_
          show Sp p e below s₁ (mkF m 56 (lt13 x p1 p2 p3 (p2 &&& (3 : Int32)) ((((p2 &&& (3 : Int32)) + (1 : Int32)) + ((p3 &&& (2147483647 : Int32)) % (3 : Int32))) &&& (3 : Int32))) []) _
          exact X0.returnOut hx Bd.returns (hb hby d6_56) hr
        · show Q6 Z n0 ex x A K S0 nc _ _ _ s₁.heap _
          rw [e0]
          exact ⟨rfl, N0, O0, B0⟩
theorem pn_7 : plainName "com/example/onetree/onetree/EdgeStates" = true := by first | (simp [plainName, overriddenIn]; done) | decide +kernel
def f7 (nc : Nat) (M : MM) : Option (Int32 × MM) := nai (ld M 9 0) fun v746 => some (v746, M)
theorem ef_7 (m : MethodId) (x : Addr) (A : Nat → Addr) : entryFrame m #[(.ref x)] 1 = mkF m 0 #[.val (.ref x)] [] := by first | (simp [entryFrame, mkF, argsToLocals, Value.category]; done) | rfl
def Q7 (Z : State) (n0 : Nat) (ex : Bool) (x : Addr) (A : Nat → Addr) (K : Nat → ClassId) (S0 : Addr) (nc : Nat) (rv : Int32) (M' : MM) (v : Option Value) (h : Heap) (L : List Loc) : Prop := v = some (.int rv) ∧ Fr n0 L ∧ Old Z n0 h ∧ EB Z n0 ex h x A K S0 nc M'
set_option maxRecDepth 65536 in
set_option maxHeartbeats 40000000 in
theorem rm7 (l : Launch) (Z : State) (a0 : Array Value) (hw : ∀ d ∈ tables_1, d.before a0 Z = true) (ws : List Jvm.Cond) (hSl : SlotsOK Z) (ex : Bool) (x : Addr) (A : Nat → Addr) (K : Nat → ClassId) (S0 : Addr) (nc : Nat) (M : MM) (rv : Int32) (M' : MM) (h0 : Heap) (n0 : Nat) (O0 : Old Z n0 h0) (B0 : EB Z n0 ex h0 x A K S0 nc M) (hf : f7 nc M = some (rv, M')) :
    MetFree l Y41 (head1 (Jvm.Cond.code Y41 prog_7_method_18_code 1 (some .int) :: ws) ({ frames := 0, cells := 0, slots := 0, locals := 0 } : Room)) (fun a U => a = #[(.ref x)] ∧ Z.Warmed39 U.vm ∧ U.heap = h0) (fun _ _ _ _ _ => True) (fun _ U o U' => ∃ v L, o = .returned v ∧ Q7 Z n0 ex x A K S0 nc rv M' v U'.heap L ∧ FrameEnd U o U' L ({ frames := 0, cells := 0, slots := 0, locals := 0 } : Room).cells ({ frames := 0, cells := 0, slots := 0, locals := 0 } : Room).slots) := by
  refine MetFree.of_bodySF (plainFor_of_name pn_7) hisR ?_
  intro p e s m args below meth c s₁ Bd hml0 hP hK
  obtain ⟨rfl, hZ, hh⟩ := hP
  have hx := Bd.exec
  have hby := Bd.bytes
  have hml : c.maxLocals = 1 := hml0
  have hown : s.vm.findClass "com/example/onetree/onetree/EdgeStates" = some m.cls := findClass_of_methodNamed Bd.named
  have X0 : Stand p l e ({ frames := 0, cells := 0, slots := 0, locals := 0 } : Room) s m #[(.ref x)] below meth c s₁ [] 0 0 := Stand.of_body Bd
  have e0 : s₁.heap = h0 := by rw [← hh, Bd.state]; rfl
  have N0 := Fr.nil n0
  have pre0 : ∀ t, Steps p.tables e below (s₁.setTop (mkF m 0 #[.val (.ref x)] [])) t → Steps p.tables e below (s₁.setTop (entryFrame m #[(.ref x)] 1)) t := fun t k => castTop (ef_7 m x A) k
  generalize hE0 : s₁.setTop (entryFrame m #[(.ref x)] 1) = E0 at pre0 ⊢
  apply Classical.byContradiction
  intro hno
  unfold f7 at hf
  obtain ⟨v746, d_v746, hf747⟩ := own_nai hf
  clear hf
  obtain ⟨T748, X748, e748, st748⟩ := getF X0 hx hZ hown (host := "") (Or.inl (hw _ (tk 62 rfl))) Via.refl e0 (own_rwF d_v746 (B0.sca 0 rfl)) (g := (mkF m 1 (lt26 x) [(.ref x)])) rfl rfl (hb hby d7_1)
  obtain ⟨rfl, rfl⟩ := own_ret hf747
  obtain ⟨fs, hr, hrun, hended, hW, hsame⟩ := X748.leave (v := some (.int v746)) (fun h => by rw [Bd.returns] at h; cases h) (BodyLoose.notSynchronized Bd)
  refine hno ⟨_, _, pre0 _ ?_, hrun, hended, _, _, rfl, ?_, ⟨_, rfl⟩, hW, hsame.mono (by decide) (by decide)⟩
  · show Sp p e below s₁ (mkF m 0 (lt26 x) []) _
    refine XS.aloadN X0.here hx rfl (hb hby d7_0) rfl rfl ?_
    show Sp p e below s₁ (mkF m 1 (lt26 x) [(.ref x)]) _
    refine st748 _ ?_
    show Sp p e below T748 (mkF m 4 (lt26 x) [(.int v746)]) _
    exact retI X748 hx Bd.returns (hb hby d7_4) hr
  · show Q7 Z n0 ex x A K S0 nc _ _ _ T748.heap _
    rw [e748]
    exact ⟨rfl, N0, O0, B0⟩
theorem pn_8 : plainName "com/example/onetree/onetree/EdgeStates" = true := by first | (simp [plainName, overriddenIn]; done) | decide +kernel
def lp8 (nc : Nat) : Nat → Nat → MM → Int32 → Int32 → Int32 → Int32 → Option (Int32 × MM)
  | 0, _, _, _, _, _, _ => none
  | k + 1, 0, M, al1, al2, _, _ => cnd (ltB al2 (Int32.ofNat nc)) (gd (inr al2 (lnR nc 7)) (nam (sto M 7 (ix al2) al1) fun M767 => gd (inr al2 nc) (lp8 nc k 1 M767 al1 al2 al2 (0 : Int32)))) (gd (inr (Int32.ofNat nc) (lnR nc 7)) (nam (sto M 7 (ix (Int32.ofNat nc)) al1) fun M779 => nam (sto M779 10 0 (1 : Int32)) fun M781 => some (0, M781)))
  | k + 1, _ + 1, M, al1, al2, al3, al4 => cnd (ltB al4 (Int32.ofNat nc)) (cnd (eqB al4 al2) (lp8 nc k 1 M al1 al2 al3 (al4 + (1 : Int32))) (gd (inr al3 nc) (gd (inr al4 nc) (nai (ld M (14 + ix al3) (ix al4)) fun v794 => cnd (eqB v794 (2 : Int32)) (lp8 nc k 1 M al1 al2 al3 (al4 + (1 : Int32))) (gd (inr al1 (lnR nc 8)) (nam (sto M 8 (ix al1) al4) fun M803 => lp8 nc k 1 M803 (al1 + (1 : Int32)) al2 al3 (al4 + (1 : Int32)))))))) (lp8 nc k 0 M al1 (al2 + (1 : Int32)) 0 0)
def f8 (nc : Nat) (M : MM) : Option (Int32 × MM) := nai (ld M 10 0) fun v754 => cnd (eqB v754 (0 : Int32)) (lp8 nc 200 0 M (0 : Int32) (0 : Int32) 0 0) (some (0, M))
theorem ef_8 (m : MethodId) (x : Addr) (A : Nat → Addr) : entryFrame m #[(.ref x)] 5 = mkF m 0 #[.val (.ref x), .unset, .unset, .unset, .unset] [] := by first | (simp [entryFrame, mkF, argsToLocals, Value.category]; done) | rfl
def Q8 (Z : State) (n0 : Nat) (ex : Bool) (x : Addr) (A : Nat → Addr) (K : Nat → ClassId) (S0 : Addr) (nc : Nat) (rv : Int32) (M' : MM) (v : Option Value) (h : Heap) (L : List Loc) : Prop := v = none ∧ Fr n0 L ∧ Old Z n0 h ∧ EB Z n0 ex h x A K S0 nc M'
set_option maxRecDepth 65536 in
set_option maxHeartbeats 40000000 in
theorem rm8 (l : Launch) (Z : State) (a0 : Array Value) (hw : ∀ d ∈ tables_1, d.before a0 Z = true) (ws : List Jvm.Cond) (hSl : SlotsOK Z) (ex : Bool) (x : Addr) (A : Nat → Addr) (K : Nat → ClassId) (S0 : Addr) (nc : Nat) (M : MM) (rv : Int32) (M' : MM) (h0 : Heap) (n0 : Nat) (O0 : Old Z n0 h0) (B0 : EB Z n0 ex h0 x A K S0 nc M) (hf : f8 nc M = some (rv, M')) :
    MetFree l Y47 (head1 (Jvm.Cond.code Y47 prog_7_method_14_code 5 none :: ws) ({ frames := 0, cells := 0, slots := 0, locals := 0 } : Room)) (fun a U => a = #[(.ref x)] ∧ Z.Warmed39 U.vm ∧ U.heap = h0) (fun _ _ _ _ _ => True) (fun _ U o U' => ∃ v L, o = .returned v ∧ Q8 Z n0 ex x A K S0 nc rv M' v U'.heap L ∧ FrameEnd U o U' L ({ frames := 0, cells := 0, slots := 0, locals := 0 } : Room).cells ({ frames := 0, cells := 0, slots := 0, locals := 0 } : Room).slots) := by
  refine MetFree.of_bodySF (plainFor_of_name pn_8) hisR ?_
  intro p e s m args below meth c s₁ Bd hml0 hP hK
  obtain ⟨rfl, hZ, hh⟩ := hP
  have hx := Bd.exec
  have hby := Bd.bytes
  have hml : c.maxLocals = 5 := hml0
  have hown : s.vm.findClass "com/example/onetree/onetree/EdgeStates" = some m.cls := findClass_of_methodNamed Bd.named
  have X0 : Stand p l e ({ frames := 0, cells := 0, slots := 0, locals := 0 } : Room) s m #[(.ref x)] below meth c s₁ [] 0 0 := Stand.of_body Bd
  have e0 : s₁.heap = h0 := by rw [← hh, Bd.state]; rfl
  have N0 := Fr.nil n0
  have pre0 : ∀ t, Steps p.tables e below (s₁.setTop (mkF m 0 #[.val (.ref x), .unset, .unset, .unset, .unset] [])) t → Steps p.tables e below (s₁.setTop (entryFrame m #[(.ref x)] 5)) t := fun t k => castTop (ef_8 m x A) k
  generalize hE0 : s₁.setTop (entryFrame m #[(.ref x)] 5) = E0 at pre0 ⊢
  apply Classical.byContradiction
  intro hno
  unfold f8 at hf
  have lp : ∀ k : Nat, (∀ (M : MM) (al1 : Int32) (al2 : Int32) (s3 : Slot) (s4 : Slot) (_ : s3 = .unset ∨ ∃ w, s3 = .val w ∧ w.category = 1) (_ : s4 = .unset ∨ ∃ w, s4 = .val w ∧ w.category = 1) (T0 : State) (L1 : List Loc) (h1 : Heap), Stand p l e ({ frames := 0, cells := 0, slots := 0, locals := 0 } : Room) s m #[(.ref x)] below meth c T0 L1 0 0 → T0.heap = h1 → Old Z n0 h1 → Fr n0 L1 → EB Z n0 ex h1 x A K S0 nc M → lp8 nc k 0 M al1 al2 0 0 = some (rv, M') → Cm p e below E0 (T0.setTop (mkF m 12 (lt29 x al1 al2 s3 s4) [])) → False) ∧ (∀ (M : MM) (al1 : Int32) (al2 : Int32) (al3 : Int32) (al4 : Int32) (T0 : State) (L1 : List Loc) (h1 : Heap), Stand p l e ({ frames := 0, cells := 0, slots := 0, locals := 0 } : Room) s m #[(.ref x)] below meth c T0 L1 0 0 → T0.heap = h1 → Old Z n0 h1 → Fr n0 L1 → EB Z n0 ex h1 x A K S0 nc M → lp8 nc k 1 M al1 al2 al3 al4 = some (rv, M') → Cm p e below E0 (T0.setTop (mkF m 37 (lt31 x al1 al2 (A (14 + ix al3)) al4) [])) → False) := by
    intro k
    induction k with
    | zero => exact ⟨fun M al1 al2 s3 s4 u3 u4 T0 L1 h1 X1 e1 O1 N1 B1 hf pre1 => (by rw [lp8] at hf; cases hf), fun M al1 al2 al3 al4 T0 L1 h1 X1 e1 O1 N1 B1 hf pre1 => (by rw [lp8] at hf; cases hf)⟩
    | succ k ih =>
      refine ⟨fun M al1 al2 s3 s4 u3 u4 T0 L1 h1 X1 e1 O1 N1 B1 hf pre1 => ?_, fun M al1 al2 al3 al4 T0 L1 h1 X1 e1 O1 N1 B1 hf pre1 => ?_⟩
      · rw [lp8] at hf
        obtain ⟨T760, X760, e760, st760⟩ := getF X1 hx hZ hown (host := "") (Or.inl (hw _ (tk 12 rfl))) Via.refl e1 (B1.fld 0 rfl) (g := (mkF m 14 (lt29 x al1 al2 s3 s4) [(.ref x), (.int al2)])) rfl rfl (hb hby d8_14)
        have pre761 : Cm p e below E0 (T760.setTop (mkF m 17 (lt29 x al1 al2 s3 s4) [(.int (Int32.ofNat nc)), (.int al2)])) := fun t kt => by
          refine pre1 t ?_
          show Sp p e below T0 (mkF m 12 (lt29 x al1 al2 s3 s4) []) _
          refine XS.iloadN X1.here hx rfl (hb hby d8_12) rfl ?_
          refine XS.aloadN X1.here hx rfl (hb hby d8_13) rfl rfl ?_
          show Sp p e below T0 (mkF m 14 (lt29 x al1 al2 s3 s4) [(.ref x), (.int al2)]) _
          refine st760 _ ?_
          show Sp p e below T760 (mkF m 17 (lt29 x al1 al2 s3 s4) [(.int (Int32.ofNat nc)), (.int al2)]) _
          exact kt
        by_cases hc762 : al2 < (Int32.ofNat nc)
        · rw [own_ltT hc762] at hf
          obtain ⟨T763, X763, e763, st763⟩ := getF X760 hx hZ hown (host := "") (Or.inl (hw _ (tk 48 rfl))) Via.refl e760 (B1.fld 9 rfl) (g := (mkF m 21 (lt29 x al1 al2 s3 s4) [(.ref x)])) rfl rfl (hb hby d8_21)
          obtain ⟨g764, hf765⟩ := own_gd hf
          clear hf
          obtain ⟨cl766, Ar766, hin766⟩ := B1.at 7 (Or.inl (by decide)) g764
          have At766 : Arr Z h1 (A 7) cl766 .int := Ar766
          obtain ⟨T767, h767, X767, e767, W767, st767⟩ := stI X763 hx hZ e763 At766 (j := al2) hin766 (g := (mkF m 26 (lt29 x al1 al2 s3 s4) [(.int al1), (.int al2), (.ref (A 7))])) rfl rfl (hb hby d8_26)
          obtain ⟨M767, d_M767, hf768⟩ := own_nam hf765
          clear hf765
          have B767 := B1.wr (v := al1) 7 (Or.inl (by decide)) g764 W767 rfl
          rw [← d_M767] at B767
          have O767 : Old Z n0 h767 := O1.wr W767 (B1.old 7 (Or.inl (by decide)))
          have N767 := Fr.snoc X767 N1 (B1.old 7 (Or.inl (by decide)))
          obtain ⟨T769, X769, e769, st769⟩ := getF X767 hx hZ hown (host := "") (Or.inl (hw _ (tk 21 rfl))) Via.refl e767 (B767.fld 1 rfl) (g := (mkF m 28 (lt29 x al1 al2 s3 s4) [(.ref x)])) rfl rfl (hb hby d8_28)
          obtain ⟨g770, hf771⟩ := own_gd hf768
          clear hf768
          obtain ⟨cl772, Ar772, hin772, hat772⟩ := B767.getS g770
          have pre773 : Cm p e below E0 (T769.setTop (mkF m 37 (lt31 x al1 al2 (A (14 + ix al2)) (0 : Int32)) [])) := fun t kt => by
            refine pre761 t ?_
            show Sp p e below T760 (mkF m 17 (lt29 x al1 al2 s3 s4) [(.int (Int32.ofNat nc)), (.int al2)]) _
            refine XS.icmpNo X760.here hx rfl (hb hby d8_17) rfl (tlt hc762).2.1 ?_
            show Sp p e below T760 (mkF m 20 (lt29 x al1 al2 s3 s4) []) _
            refine XS.aloadN X760.here hx rfl (hb hby d8_20) rfl rfl ?_
            show Sp p e below T760 (mkF m 21 (lt29 x al1 al2 s3 s4) [(.ref x)]) _
            refine st763 _ ?_
            show Sp p e below T763 (mkF m 24 (lt29 x al1 al2 s3 s4) [(.ref (A 7))]) _
            refine XS.iloadN X763.here hx rfl (hb hby d8_24) rfl ?_
            refine XS.iloadN X763.here hx rfl (hb hby d8_25) rfl ?_
            show Sp p e below T763 (mkF m 26 (lt29 x al1 al2 s3 s4) [(.int al1), (.int al2), (.ref (A 7))]) _
            refine st767 _ ?_
            show Sp p e below T767 (mkF m 27 (lt29 x al1 al2 s3 s4) []) _
            refine XS.aloadN X767.here hx rfl (hb hby d8_27) rfl rfl ?_
            show Sp p e below T767 (mkF m 28 (lt29 x al1 al2 s3 s4) [(.ref x)]) _
            refine st769 _ ?_
            show Sp p e below T769 (mkF m 31 (lt29 x al1 al2 s3 s4) [(.ref S0)]) _
            refine XS.iloadN X769.here hx rfl (hb hby d8_31) rfl ?_
            show Sp p e below T769 (mkF m 32 (lt29 x al1 al2 s3 s4) [(.int al2), (.ref S0)]) _
            refine X769.aaload hx (j := al2) (v := .ref (A (14 + ix al2))) (by rw [e769]; exact Ar772.1) (State.isArrayOf_alike hZ.alike Ar772.2.1) rfl Ar772.2.2 hin772 hat772 (g := (mkF m 32 (lt29 x al1 al2 s3 s4) [(.int al2), (.ref S0)])) rfl rfl (hb hby d8_32) _ ?_
            show Sp p e below T769 (mkF m 33 (lt29 x al1 al2 s3 s4) [(.ref (A (14 + ix al2)))]) _
            refine XT.astoreNS X769.here hx rfl (hb hby d8_33) rfl rfl rfl rfl u3 ?_
            show Sp p e below T769 (mkF m 34 (lt30 x al1 al2 (A (14 + ix al2)) s4) []) _
            refine XS.iconst X769.here hx rfl (hb hby d8_34) ?_
            refine XS.istoreS X769.here hx rfl (hb hby d8_35) rfl rfl u4 ?_
            show Sp p e below T769 (mkF m 37 (lt31 x al1 al2 (A (14 + ix al2)) (0 : Int32)) []) _
            exact kt
          exact ih.2 M767 al1 al2 al2 (0 : Int32) T769 _ _ X769 e769 O767 N767 B767 hf771 pre773
        · rw [own_ltF hc762] at hf
          obtain ⟨T774, X774, e774, st774⟩ := getF X760 hx hZ hown (host := "") (Or.inl (hw _ (tk 48 rfl))) Via.refl e760 (B1.fld 9 rfl) (g := (mkF m 84 (lt29 x al1 al2 s3 s4) [(.ref x)])) rfl rfl (hb hby d8_84)
          obtain ⟨T775, X775, e775, st775⟩ := getF X774 hx hZ hown (host := "") (Or.inl (hw _ (tk 12 rfl))) Via.refl e774 (B1.fld 0 rfl) (g := (mkF m 88 (lt29 x al1 al2 s3 s4) [(.ref x), (.ref (A 7))])) rfl rfl (hb hby d8_88)
          obtain ⟨g776, hf777⟩ := own_gd hf
          clear hf
          obtain ⟨cl778, Ar778, hin778⟩ := B1.at 7 (Or.inl (by decide)) g776
          have At778 : Arr Z h1 (A 7) cl778 .int := Ar778
          obtain ⟨T779, h779, X779, e779, W779, st779⟩ := stI X775 hx hZ e775 At778 (j := (Int32.ofNat nc)) hin778 (g := (mkF m 92 (lt29 x al1 al2 s3 s4) [(.int al1), (.int (Int32.ofNat nc)), (.ref (A 7))])) rfl rfl (hb hby d8_92)
          obtain ⟨M779, d_M779, hf780⟩ := own_nam hf777
          clear hf777
          have B779 := B1.wr (v := al1) 7 (Or.inl (by decide)) g776 W779 rfl
          rw [← d_M779] at B779
          have O779 : Old Z n0 h779 := O1.wr W779 (B1.old 7 (Or.inl (by decide)))
          have N779 := Fr.snoc X779 N1 (B1.old 7 (Or.inl (by decide)))
          obtain ⟨T781, h781, X781, e781, W781, st781⟩ := putFN X779 hx hZ hown (hw _ (tk 69 rfl)) Via.refl e779 (B779.sca 1 rfl) B779.exa (Or.inl (hw _ (tk 70 rfl))) (hw _ (tk 1 rfl)) (ty := .boolean) (v' := (.int (1 : Int32))) (by decide) rfl (by decide) (g := (mkF m 95 (lt29 x al1 al2 s3 s4) [(.int (1 : Int32)), (.ref x)])) rfl rfl (hb hby d8_95)
          obtain ⟨M781, d_M781, hf782⟩ := own_nam hf780
          clear hf780
          have B781 := B779.put hSl 1 rfl W781
          rw [← d_M781] at B781
          have O781 : Old Z n0 h781 := O779.wr W781 B779.oldx
          have N781 := Fr.snoc X781 N779 B779.oldx
          obtain ⟨rfl, rfl⟩ := own_ret hf782
          obtain ⟨fs, hr, hrun, hended, hW, hsame⟩ := X781.leave (v := none) (fun _ => rfl) (BodyLoose.notSynchronized Bd)
          refine hno ⟨_, _, pre761 _ ?_, hrun, hended, _, _, rfl, ?_, ⟨_, rfl⟩, hW, hsame.mono (by decide) (by decide)⟩
          · show Sp p e below T760 (mkF m 17 (lt29 x al1 al2 s3 s4) [(.int (Int32.ofNat nc)), (.int al2)]) _
            refine XS.icmpYes X760.here hx rfl (pc0 := 17) (pc' := 83) rfl (hb hby d8_17) rfl (flt hc762).2.1 (by decide) (by decide) ?_
            show Sp p e below T760 (mkF m 83 (lt29 x al1 al2 s3 s4) []) _
            refine XS.aloadN X760.here hx rfl (hb hby d8_83) rfl rfl ?_
            show Sp p e below T760 (mkF m 84 (lt29 x al1 al2 s3 s4) [(.ref x)]) _
            refine st774 _ ?_
            show Sp p e below T774 (mkF m 87 (lt29 x al1 al2 s3 s4) [(.ref (A 7))]) _
            refine XS.aloadN X774.here hx rfl (hb hby d8_87) rfl rfl ?_
            show Sp p e below T774 (mkF m 88 (lt29 x al1 al2 s3 s4) [(.ref x), (.ref (A 7))]) _
            refine st775 _ ?_
            show Sp p e below T775 (mkF m 91 (lt29 x al1 al2 s3 s4) [(.int (Int32.ofNat nc)), (.ref (A 7))]) _
            refine XS.iloadN X775.here hx rfl (hb hby d8_91) rfl ?_
            show Sp p e below T775 (mkF m 92 (lt29 x al1 al2 s3 s4) [(.int al1), (.int (Int32.ofNat nc)), (.ref (A 7))]) _
            refine st779 _ ?_
            show Sp p e below T779 (mkF m 93 (lt29 x al1 al2 s3 s4) []) _
            refine XS.aloadN X779.here hx rfl (hb hby d8_93) rfl rfl ?_
            refine XS.iconst X779.here hx rfl (hb hby d8_94) ?_
            show Sp p e below T779 (mkF m 95 (lt29 x al1 al2 s3 s4) [(.int (1 : Int32)), (.ref x)]) _
            refine st781 _ ?_
            show Sp p e below T781 (mkF m 98 (lt29 x al1 al2 s3 s4) []) _
            exact X781.returnOut hx Bd.returns (hb hby d8_98) hr
          · show Q8 Z n0 ex x A K S0 nc _ _ _ T781.heap _
            rw [e781]
            exact ⟨rfl, N781, O781, B781⟩
      · rw [lp8] at hf
        obtain ⟨T783, X783, e783, st783⟩ := getF X1 hx hZ hown (host := "") (Or.inl (hw _ (tk 12 rfl))) Via.refl e1 (B1.fld 0 rfl) (g := (mkF m 40 (lt31 x al1 al2 (A (14 + ix al3)) al4) [(.ref x), (.int al4)])) rfl rfl (hb hby d8_40)
        have pre784 : Cm p e below E0 (T783.setTop (mkF m 43 (lt31 x al1 al2 (A (14 + ix al3)) al4) [(.int (Int32.ofNat nc)), (.int al4)])) := fun t kt => by
          refine pre1 t ?_
          show Sp p e below T0 (mkF m 37 (lt31 x al1 al2 (A (14 + ix al3)) al4) []) _
          refine XS.iload X1.here hx rfl (hb hby d8_37) rfl ?_
          refine XS.aloadN X1.here hx rfl (hb hby d8_39) rfl rfl ?_
          show Sp p e below T0 (mkF m 40 (lt31 x al1 al2 (A (14 + ix al3)) al4) [(.ref x), (.int al4)]) _
          refine st783 _ ?_
          show Sp p e below T783 (mkF m 43 (lt31 x al1 al2 (A (14 + ix al3)) al4) [(.int (Int32.ofNat nc)), (.int al4)]) _
          exact kt
        by_cases hc785 : al4 < (Int32.ofNat nc)
        · rw [own_ltT hc785] at hf
          have pre786 : Cm p e below E0 (T783.setTop (mkF m 49 (lt31 x al1 al2 (A (14 + ix al3)) al4) [(.int al2), (.int al4)])) := fun t kt => by
            refine pre784 t ?_
            show Sp p e below T783 (mkF m 43 (lt31 x al1 al2 (A (14 + ix al3)) al4) [(.int (Int32.ofNat nc)), (.int al4)]) _
            refine XS.icmpNo X783.here hx rfl (hb hby d8_43) rfl (tlt hc785).2.1 ?_
            show Sp p e below T783 (mkF m 46 (lt31 x al1 al2 (A (14 + ix al3)) al4) []) _
            refine XS.iload X783.here hx rfl (hb hby d8_46) rfl ?_
            refine XS.iloadN X783.here hx rfl (hb hby d8_48) rfl ?_
            show Sp p e below T783 (mkF m 49 (lt31 x al1 al2 (A (14 + ix al3)) al4) [(.int al2), (.int al4)]) _
            exact kt
          by_cases hc787 : al4 = al2
          · rw [own_eqT hc787] at hf
            have pre788 : Cm p e below E0 (T783.setTop (mkF m 37 (lt31 x al1 al2 (A (14 + ix al3)) (al4 + (1 : Int32))) [])) := fun t kt => by
              refine pre786 t ?_
              show Sp p e below T783 (mkF m 49 (lt31 x al1 al2 (A (14 + ix al3)) al4) [(.int al2), (.int al4)]) _
              refine XS.icmpYes X783.here hx rfl (pc0 := 49) (pc' := 71) rfl (hb hby d8_49) rfl (teq hc787).1 (by decide) (by decide) ?_
              show Sp p e below T783 (mkF m 71 (lt31 x al1 al2 (A (14 + ix al3)) al4) []) _
              refine XS.iinc X783.here hx rfl (hb hby d8_71) rfl (l' := (lt31 x al1 al2 (A (14 + ix al3)) (al4 + (1 : Int32)))) rfl ?_
              show Sp p e below T783 (mkF m 74 (lt31 x al1 al2 (A (14 + ix al3)) (al4 + (1 : Int32))) []) _
              refine XS.goto X783.here hx rfl (pc0 := 74) (pc' := 37) rfl (hb hby d8_74) (by decide) (by decide) ?_
              show Sp p e below T783 (mkF m 37 (lt31 x al1 al2 (A (14 + ix al3)) (al4 + (1 : Int32))) []) _
              exact kt
            exact ih.2 M al1 al2 al3 (al4 + (1 : Int32)) T783 _ _ X783 e783 O1 N1 B1 hf pre788
          · rw [own_eqF hc787] at hf
            obtain ⟨g789, hf790⟩ := own_gd hf
            clear hf
            obtain ⟨g791, hf792⟩ := own_gd hf790
            clear hf790
            obtain ⟨v794, d_v794, hf795⟩ := own_nai hf792
            clear hf792
            obtain ⟨cl793, Ar793, hin793, hat793⟩ := B1.get (14 + ix al3) (B1.isS g789) (own_gS g791) d_v794
            have At793 := own_tyA Ar793
            have pre796 : Cm p e below E0 (T783.setTop (mkF m 57 (lt31 x al1 al2 (A (14 + ix al3)) al4) [(.int (2 : Int32)), (.int v794)])) := fun t kt => by
              refine pre786 t ?_
              show Sp p e below T783 (mkF m 49 (lt31 x al1 al2 (A (14 + ix al3)) al4) [(.int al2), (.int al4)]) _
              refine XS.icmpNo X783.here hx rfl (hb hby d8_49) rfl (feq hc787).1 ?_
              show Sp p e below T783 (mkF m 52 (lt31 x al1 al2 (A (14 + ix al3)) al4) []) _
              refine XS.aloadN X783.here hx rfl (hb hby d8_52) rfl rfl ?_
              refine XS.iload X783.here hx rfl (hb hby d8_53) rfl ?_
              show Sp p e below T783 (mkF m 55 (lt31 x al1 al2 (A (14 + ix al3)) al4) [(.int al4), (.ref (A (14 + ix al3)))]) _
              refine X783.baloadBytes hx (j := al4) (v := (.int v794)) (by rw [e783]; exact Ar793.1) (State.isArrayOf_alike hZ.alike At793.2.1) At793.2.2 hin793 hat793 (g := (mkF m 55 (lt31 x al1 al2 (A (14 + ix al3)) al4) [(.int al4), (.ref (A (14 + ix al3)))])) rfl rfl (hb hby d8_55) _ ?_
              show Sp p e below T783 (mkF m 56 (lt31 x al1 al2 (A (14 + ix al3)) al4) [(.int v794)]) _
              refine XS.iconst X783.here hx rfl (hb hby d8_56) ?_
              show Sp p e below T783 (mkF m 57 (lt31 x al1 al2 (A (14 + ix al3)) al4) [(.int (2 : Int32)), (.int v794)]) _
              exact kt
            by_cases hc797 : v794 = (2 : Int32)
            · rw [own_eqT hc797] at hf795
              have pre798 : Cm p e below E0 (T783.setTop (mkF m 37 (lt31 x al1 al2 (A (14 + ix al3)) (al4 + (1 : Int32))) [])) := fun t kt => by
                refine pre796 t ?_
                show Sp p e below T783 (mkF m 57 (lt31 x al1 al2 (A (14 + ix al3)) al4) [(.int (2 : Int32)), (.int v794)]) _
                refine XS.icmpYes X783.here hx rfl (pc0 := 57) (pc' := 71) rfl (hb hby d8_57) rfl (teq hc797).1 (by decide) (by decide) ?_
                show Sp p e below T783 (mkF m 71 (lt31 x al1 al2 (A (14 + ix al3)) al4) []) _
                refine XS.iinc X783.here hx rfl (hb hby d8_71) rfl (l' := (lt31 x al1 al2 (A (14 + ix al3)) (al4 + (1 : Int32)))) rfl ?_
                show Sp p e below T783 (mkF m 74 (lt31 x al1 al2 (A (14 + ix al3)) (al4 + (1 : Int32))) []) _
                refine XS.goto X783.here hx rfl (pc0 := 74) (pc' := 37) rfl (hb hby d8_74) (by decide) (by decide) ?_
                show Sp p e below T783 (mkF m 37 (lt31 x al1 al2 (A (14 + ix al3)) (al4 + (1 : Int32))) []) _
                exact kt
              exact ih.2 M al1 al2 al3 (al4 + (1 : Int32)) T783 _ _ X783 e783 O1 N1 B1 hf795 pre798
            · rw [own_eqF hc797] at hf795
              obtain ⟨T799, X799, e799, st799⟩ := getF X783 hx hZ hown (host := "") (Or.inl (hw _ (tk 50 rfl))) Via.refl e783 (B1.fld 10 rfl) (g := (mkF m 61 (lt31 x al1 al2 (A (14 + ix al3)) al4) [(.ref x)])) rfl rfl (hb hby d8_61)
              obtain ⟨g800, hf801⟩ := own_gd hf795
              clear hf795
              obtain ⟨cl802, Ar802, hin802⟩ := B1.at 8 (Or.inl (by decide)) g800
              have At802 : Arr Z h1 (A 8) cl802 .int := Ar802
              obtain ⟨T803, h803, X803, e803, W803, st803⟩ := stI X799 hx hZ e799 At802 (j := al1) hin802 (g := (mkF m 70 (lt31 x (al1 + (1 : Int32)) al2 (A (14 + ix al3)) al4) [(.int al4), (.int al1), (.ref (A 8))])) rfl rfl (hb hby d8_70)
              obtain ⟨M803, d_M803, hf804⟩ := own_nam hf801
              clear hf801
              have B803 := B1.wr (v := al4) 8 (Or.inl (by decide)) g800 W803 rfl
              rw [← d_M803] at B803
              have O803 : Old Z n0 h803 := O1.wr W803 (B1.old 8 (Or.inl (by decide)))
              have N803 := Fr.snoc X803 N1 (B1.old 8 (Or.inl (by decide)))
              have pre805 : Cm p e below E0 (T803.setTop (mkF m 37 (lt31 x (al1 + (1 : Int32)) al2 (A (14 + ix al3)) (al4 + (1 : Int32))) [])) := fun t kt => by
                refine pre796 t ?_
                show Sp p e below T783 (mkF m 57 (lt31 x al1 al2 (A (14 + ix al3)) al4) [(.int (2 : Int32)), (.int v794)]) _
                refine XS.icmpNo X783.here hx rfl (hb hby d8_57) rfl (feq hc797).1 ?_
                show Sp p e below T783 (mkF m 60 (lt31 x al1 al2 (A (14 + ix al3)) al4) []) _
                refine XS.aloadN X783.here hx rfl (hb hby d8_60) rfl rfl ?_
                show Sp p e below T783 (mkF m 61 (lt31 x al1 al2 (A (14 + ix al3)) al4) [(.ref x)]) _
                refine st799 _ ?_
                show Sp p e below T799 (mkF m 64 (lt31 x al1 al2 (A (14 + ix al3)) al4) [(.ref (A 8))]) _
                refine XS.iloadN X799.here hx rfl (hb hby d8_64) rfl ?_
                refine XS.iinc X799.here hx rfl (hb hby d8_65) rfl (l' := (lt31 x (al1 + (1 : Int32)) al2 (A (14 + ix al3)) al4)) rfl ?_
                show Sp p e below T799 (mkF m 68 (lt31 x (al1 + (1 : Int32)) al2 (A (14 + ix al3)) al4) [(.int al1), (.ref (A 8))]) _
                refine XS.iload X799.here hx rfl (hb hby d8_68) rfl ?_
                show Sp p e below T799 (mkF m 70 (lt31 x (al1 + (1 : Int32)) al2 (A (14 + ix al3)) al4) [(.int al4), (.int al1), (.ref (A 8))]) _
                refine st803 _ ?_
                show Sp p e below T803 (mkF m 71 (lt31 x (al1 + (1 : Int32)) al2 (A (14 + ix al3)) al4) []) _
                refine XS.iinc X803.here hx rfl (hb hby d8_71) rfl (l' := (lt31 x (al1 + (1 : Int32)) al2 (A (14 + ix al3)) (al4 + (1 : Int32)))) rfl ?_
                show Sp p e below T803 (mkF m 74 (lt31 x (al1 + (1 : Int32)) al2 (A (14 + ix al3)) (al4 + (1 : Int32))) []) _
                refine XS.goto X803.here hx rfl (pc0 := 74) (pc' := 37) rfl (hb hby d8_74) (by decide) (by decide) ?_
                show Sp p e below T803 (mkF m 37 (lt31 x (al1 + (1 : Int32)) al2 (A (14 + ix al3)) (al4 + (1 : Int32))) []) _
                exact kt
              exact ih.2 M803 (al1 + (1 : Int32)) al2 al3 (al4 + (1 : Int32)) T803 _ _ X803 e803 O803 N803 B803 hf804 pre805
        · rw [own_ltF hc785] at hf
          have pre806 : Cm p e below E0 (T783.setTop (mkF m 12 (lt31 x al1 (al2 + (1 : Int32)) (A (14 + ix al3)) al4) [])) := fun t kt => by
            refine pre784 t ?_
            show Sp p e below T783 (mkF m 43 (lt31 x al1 al2 (A (14 + ix al3)) al4) [(.int (Int32.ofNat nc)), (.int al4)]) _
            refine XS.icmpYes X783.here hx rfl (pc0 := 43) (pc' := 77) rfl (hb hby d8_43) rfl (flt hc785).2.1 (by decide) (by decide) ?_
            show Sp p e below T783 (mkF m 77 (lt31 x al1 al2 (A (14 + ix al3)) al4) []) _
            refine XS.iinc X783.here hx rfl (hb hby d8_77) rfl (l' := (lt31 x al1 (al2 + (1 : Int32)) (A (14 + ix al3)) al4)) rfl ?_
            show Sp p e below T783 (mkF m 80 (lt31 x al1 (al2 + (1 : Int32)) (A (14 + ix al3)) al4) []) _
            refine XS.goto X783.here hx rfl (pc0 := 80) (pc' := 12) rfl (hb hby d8_80) (by decide) (by decide) ?_
            show Sp p e below T783 (mkF m 12 (lt31 x al1 (al2 + (1 : Int32)) (A (14 + ix al3)) al4) []) _
            exact kt
          exact ih.1 M al1 (al2 + (1 : Int32)) (.val (.ref (A (14 + ix al3)))) (.val (.int al4)) (Or.inr ⟨_, rfl, rfl⟩) (Or.inr ⟨_, rfl, rfl⟩) T783 _ _ X783 e783 O1 N1 B1 hf pre806
  obtain ⟨v754, d_v754, hf755⟩ := own_nai hf
  clear hf
  obtain ⟨T756, X756, e756, st756⟩ := getF X0 hx hZ hown (host := "") (Or.inl (hw _ (tk 69 rfl))) Via.refl e0 (own_rwF d_v754 (B0.sca 1 rfl)) (g := (mkF m 1 (lt28 x) [(.ref x)])) rfl rfl (hb hby d8_1)
  have pre757 : Cm p e below E0 (T756.setTop (mkF m 4 (lt28 x) [(.int v754)])) := fun t kt => by
    refine pre0 t ?_
    show Sp p e below s₁ (mkF m 0 (lt28 x) []) _
    refine XS.aloadN X0.here hx rfl (hb hby d8_0) rfl rfl ?_
    show Sp p e below s₁ (mkF m 1 (lt28 x) [(.ref x)]) _
    refine st756 _ ?_
    show Sp p e below T756 (mkF m 4 (lt28 x) [(.int v754)]) _
    exact kt
  by_cases hc758 : v754 = (0 : Int32)
  · rw [own_eqT hc758] at hf755
    have pre759 : Cm p e below E0 (T756.setTop (mkF m 12 (lt17 x (0 : Int32) (0 : Int32)) [])) := fun t kt => by
      refine pre757 t ?_
      show Sp p e below T756 (mkF m 4 (lt28 x) [(.int v754)]) _
      refine XS.ifYes X756.here hx rfl (pc0 := 4) (pc' := 8) rfl (hb hby d8_4) rfl ((if0 _ _).trans (teq hc758).1) (by decide) (by decide) ?_
      show Sp p e below T756 (mkF m 8 (lt28 x) []) _
      refine XS.iconst X756.here hx rfl (hb hby d8_8) ?_
      refine XS.istoreN X756.here hx rfl (hb hby d8_9) rfl (l' := (lt16 x (0 : Int32))) rfl ?_
      show Sp p e below T756 (mkF m 10 (lt16 x (0 : Int32)) []) _
      refine XS.iconst X756.here hx rfl (hb hby d8_10) ?_
      refine XS.istoreN X756.here hx rfl (hb hby d8_11) rfl (l' := (lt17 x (0 : Int32) (0 : Int32))) rfl ?_
      show Sp p e below T756 (mkF m 12 (lt17 x (0 : Int32) (0 : Int32)) []) _
      exact kt
    exact (lp 200).1 M (0 : Int32) (0 : Int32) (.unset) (.unset) (Or.inl rfl) (Or.inl rfl) T756 _ _ X756 e756 O0 N0 B0 hf755 pre759
  · rw [own_eqF hc758] at hf755
    obtain ⟨rfl, rfl⟩ := own_ret hf755
    obtain ⟨fs, hr, hrun, hended, hW, hsame⟩ := X756.leave (v := none) (fun _ => rfl) (BodyLoose.notSynchronized Bd)
    refine hno ⟨_, _, pre757 _ ?_, hrun, hended, _, _, rfl, ?_, ⟨_, rfl⟩, hW, hsame.mono (by decide) (by decide)⟩
    · show Sp p e below T756 (mkF m 4 (lt28 x) [(.int v754)]) _
      refine XS.ifNo X756.here hx rfl (hb hby d8_4) rfl ((if0 _ _).trans (feq hc758).1) ?_
      show Sp p e below T756 (mkF m 7 (lt28 x) []) _
      exact X756.returnOut hx Bd.returns (hb hby d8_7) hr
    · show Q8 Z n0 ex x A K S0 nc _ _ _ T756.heap _
      rw [e756]
      exact ⟨rfl, N0, O0, B0⟩
theorem pn_24 : plainName "com/example/onetree/onetree/EdgeStates" = true := by first | (simp [plainName, overriddenIn]; done) | decide +kernel
def lp24 (nc : Nat) : Nat → MM → Int32 → Option (Int32 × MM)
  | 0, _, _ => none
  | k + 1, M, al1 => nai (ld M 9 0) fun v815 => cnd (ltB al1 v815) (gd (inr (v815 - (1 : Int32)) (lnR nc 6)) (nai (ld M 6 (ix (v815 - (1 : Int32)))) fun v825 => cnd (ltB v825 (0 : Int32)) (gd (inr (v815 - (3 : Int32)) (lnR nc 6)) (nai (ld M 6 (ix (v815 - (3 : Int32)))) fun v835 => gd (inr (v825 ^^^ (-1 : Int32)) (lnR nc 2)) (nam (sto M 2 (ix (v825 ^^^ (-1 : Int32))) v835) fun M840 => nai (ld M840 9 0) fun v844 => gd (inr (v844 - (2 : Int32)) (lnR nc 6)) (nai (ld M840 6 (ix (v844 - (2 : Int32)))) fun v850 => gd (inr (v825 ^^^ (-1 : Int32)) (lnR nc 3)) (nam (sto M840 3 (ix (v825 ^^^ (-1 : Int32))) v850) fun M855 => nai (ld M855 9 0) fun v857 => nam (sto M855 9 0 (v857 - (3 : Int32))) fun M860 => lp24 nc k M860 al1))))) (gd (inr (v815 - (2 : Int32)) (lnR nc 6)) (nai (ld M 6 (ix (v815 - (2 : Int32)))) fun v868 => nam (sto M 9 0 (v815 - (2 : Int32))) fun M871 => nam (sto M871 10 0 (0 : Int32)) fun M873 => gd (inr v868 nc) (gd (inr v825 nc) (nai (ld M873 (14 + ix v868) (ix v825)) fun v882 => cnd (eqB v882 (1 : Int32)) (gd (inr v868 (lnR nc 0)) (nai (ld M873 0 (ix v868)) fun v890 => nam (sto M873 0 (ix v868) (v890 - (1 : Int32))) fun M893 => gd (inr v825 (lnR nc 0)) (nai (ld M893 0 (ix v825)) fun v899 => nam (sto M893 0 (ix v825) (v899 - (1 : Int32))) fun M902 => nam (sto M902 (14 + ix v868) (ix v825) (0 : Int32)) fun M907 => nam (sto M907 (14 + ix v825) (ix v868) (0 : Int32)) fun M912 => lp24 nc k M912 al1))) (gd (inr v868 (lnR nc 1)) (nai (ld M873 1 (ix v868)) fun v919 => nam (sto M873 1 (ix v868) (v919 + (1 : Int32))) fun M922 => gd (inr v825 (lnR nc 1)) (nai (ld M922 1 (ix v825)) fun v928 => nam (sto M922 1 (ix v825) (v928 + (1 : Int32))) fun M931 => nam (sto M931 (14 + ix v868) (ix v825) (0 : Int32)) fun M936 => nam (sto M936 (14 + ix v825) (ix v868) (0 : Int32)) fun M941 => lp24 nc k M941 al1))))))))) (some (0, M))
def f24 (nc : Nat) (M : MM) (p1 : Int32) : Option (Int32 × MM) := lp24 nc 200 M p1
theorem ef_24 (m : MethodId) (x : Addr) (A : Nat → Addr) (p1 : Int32) : entryFrame m #[(.ref x), (.int p1)] 5 = mkF m 0 #[.val (.ref x), .val (.int p1), .unset, .unset, .unset] [] := by first | (simp [entryFrame, mkF, argsToLocals, Value.category]; done) | rfl
def Q24 (Z : State) (n0 : Nat) (ex : Bool) (x : Addr) (A : Nat → Addr) (K : Nat → ClassId) (S0 : Addr) (nc : Nat) (rv : Int32) (M' : MM) (v : Option Value) (h : Heap) (L : List Loc) : Prop := v = none ∧ Fr n0 L ∧ Old Z n0 h ∧ EB Z n0 ex h x A K S0 nc M'
set_option maxRecDepth 65536 in
set_option maxHeartbeats 40000000 in
theorem rm24 (l : Launch) (Z : State) (a0 : Array Value) (hw : ∀ d ∈ tables_1, d.before a0 Z = true) (ws : List Jvm.Cond) (hSl : SlotsOK Z) (ex : Bool) (x : Addr) (A : Nat → Addr) (K : Nat → ClassId) (S0 : Addr) (nc : Nat) (M : MM) (p1 : Int32) (rv : Int32) (M' : MM) (h0 : Heap) (n0 : Nat) (O0 : Old Z n0 h0) (B0 : EB Z n0 ex h0 x A K S0 nc M) (hf : f24 nc M p1 = some (rv, M')) :
    MetFree l Y50 (head1 (Jvm.Cond.code Y50 prog_7_method_19_code 5 none :: ws) ({ frames := 0, cells := 0, slots := 0, locals := 0 } : Room)) (fun a U => a = #[(.ref x), (.int p1)] ∧ Z.Warmed39 U.vm ∧ U.heap = h0) (fun _ _ _ _ _ => True) (fun _ U o U' => ∃ v L, o = .returned v ∧ Q24 Z n0 ex x A K S0 nc rv M' v U'.heap L ∧ FrameEnd U o U' L ({ frames := 0, cells := 0, slots := 0, locals := 0 } : Room).cells ({ frames := 0, cells := 0, slots := 0, locals := 0 } : Room).slots) := by
  refine MetFree.of_bodySF (plainFor_of_name pn_24) hisR ?_
  intro p e s m args below meth c s₁ Bd hml0 hP hK
  obtain ⟨rfl, hZ, hh⟩ := hP
  have hx := Bd.exec
  have hby := Bd.bytes
  have hml : c.maxLocals = 5 := hml0
  have hown : s.vm.findClass "com/example/onetree/onetree/EdgeStates" = some m.cls := findClass_of_methodNamed Bd.named
  have X0 : Stand p l e ({ frames := 0, cells := 0, slots := 0, locals := 0 } : Room) s m #[(.ref x), (.int p1)] below meth c s₁ [] 0 0 := Stand.of_body Bd
  have e0 : s₁.heap = h0 := by rw [← hh, Bd.state]; rfl
  have N0 := Fr.nil n0
  have pre0 : ∀ t, Steps p.tables e below (s₁.setTop (mkF m 0 #[.val (.ref x), .val (.int p1), .unset, .unset, .unset] [])) t → Steps p.tables e below (s₁.setTop (entryFrame m #[(.ref x), (.int p1)] 5)) t := fun t k => castTop (ef_24 m x A p1) k
  generalize hE0 : s₁.setTop (entryFrame m #[(.ref x), (.int p1)] 5) = E0 at pre0 ⊢
  apply Classical.byContradiction
  intro hno
  unfold f24 at hf
  have lp : ∀ k : Nat, (∀ (M : MM) (al1 : Int32) (s2 : Slot) (s3 : Slot) (s4 : Slot) (_ : s2 = .unset ∨ ∃ w, s2 = .val w ∧ w.category = 1) (_ : s3 = .unset ∨ ∃ w, s3 = .val w ∧ w.category = 1) (_ : s4 = .unset ∨ ∃ w, s4 = .val w ∧ w.category = 1) (T0 : State) (L1 : List Loc) (h1 : Heap), Stand p l e ({ frames := 0, cells := 0, slots := 0, locals := 0 } : Room) s m #[(.ref x), (.int p1)] below meth c T0 L1 0 0 → T0.heap = h1 → Old Z n0 h1 → Fr n0 L1 → EB Z n0 ex h1 x A K S0 nc M → lp24 nc k M al1 = some (rv, M') → Cm p e below E0 (T0.setTop (mkF m 0 (lt33 x al1 s2 s3 s4) [])) → False) := by
    intro k
    induction k with
    | zero => exact fun M al1 s2 s3 s4 u2 u3 u4 T0 L1 h1 X1 e1 O1 N1 B1 hf pre1 => (by rw [lp24] at hf; cases hf)
    | succ k ih =>
      refine fun M al1 s2 s3 s4 u2 u3 u4 T0 L1 h1 X1 e1 O1 N1 B1 hf pre1 => ?_
      · rw [lp24] at hf
        obtain ⟨v815, d_v815, hf816⟩ := own_nai hf
        clear hf
        obtain ⟨T817, X817, e817, st817⟩ := getF X1 hx hZ hown (host := "") (Or.inl (hw _ (tk 62 rfl))) Via.refl e1 (own_rwF d_v815 (B1.sca 0 rfl)) (g := (mkF m 1 (lt33 x al1 s2 s3 s4) [(.ref x)])) rfl rfl (hb hby d24_1)
        have pre818 : Cm p e below E0 (T817.setTop (mkF m 5 (lt33 x al1 s2 s3 s4) [(.int al1), (.int v815)])) := fun t kt => by
          refine pre1 t ?_
          show Sp p e below T0 (mkF m 0 (lt33 x al1 s2 s3 s4) []) _
          refine XS.aloadN X1.here hx rfl (hb hby d24_0) rfl rfl ?_
          show Sp p e below T0 (mkF m 1 (lt33 x al1 s2 s3 s4) [(.ref x)]) _
          refine st817 _ ?_
          show Sp p e below T817 (mkF m 4 (lt33 x al1 s2 s3 s4) [(.int v815)]) _
          refine XS.iloadN X817.here hx rfl (hb hby d24_4) rfl ?_
          show Sp p e below T817 (mkF m 5 (lt33 x al1 s2 s3 s4) [(.int al1), (.int v815)]) _
          exact kt
        by_cases hc819 : al1 < v815
        · rw [own_ltT hc819] at hf816
          obtain ⟨T820, X820, e820, st820⟩ := getF X817 hx hZ hown (host := "") (Or.inl (hw _ (tk 37 rfl))) Via.refl e817 (B1.fld 8 rfl) (g := (mkF m 9 (lt33 x al1 s2 s3 s4) [(.ref x)])) rfl rfl (hb hby d24_9)
          obtain ⟨T821, X821, e821, st821⟩ := getF X820 hx hZ hown (host := "") (Or.inl (hw _ (tk 62 rfl))) Via.refl e820 (own_rwF d_v815 (B1.sca 0 rfl)) (g := (mkF m 13 (lt33 x al1 s2 s3 s4) [(.ref x), (.ref (A 6))])) rfl rfl (hb hby d24_13)
          obtain ⟨g822, hf823⟩ := own_gd hf816
          clear hf816
          obtain ⟨v825, d_v825, hf826⟩ := own_nai hf823
          clear hf823
          obtain ⟨cl824, Ar824, hin824, hat824⟩ := B1.get 6 (Or.inl (by decide)) g822 d_v825
          have At824 : Arr Z h1 (A 6) cl824 .int := Ar824
          have pre827 : Cm p e below E0 (T821.setTop (mkF m 21 (lt29 x al1 v825 s3 s4) [(.int v825)])) := fun t kt => by
            refine pre818 t ?_
            show Sp p e below T817 (mkF m 5 (lt33 x al1 s2 s3 s4) [(.int al1), (.int v815)]) _
            refine XS.icmpNo X817.here hx rfl (hb hby d24_5) rfl (tlt hc819).2.2.2 ?_
            show Sp p e below T817 (mkF m 8 (lt33 x al1 s2 s3 s4) []) _
            refine XS.aloadN X817.here hx rfl (hb hby d24_8) rfl rfl ?_
            show Sp p e below T817 (mkF m 9 (lt33 x al1 s2 s3 s4) [(.ref x)]) _
            refine st820 _ ?_
            show Sp p e below T820 (mkF m 12 (lt33 x al1 s2 s3 s4) [(.ref (A 6))]) _
            refine XS.aloadN X820.here hx rfl (hb hby d24_12) rfl rfl ?_
            show Sp p e below T820 (mkF m 13 (lt33 x al1 s2 s3 s4) [(.ref x), (.ref (A 6))]) _
            refine st821 _ ?_
            show Sp p e below T821 (mkF m 16 (lt33 x al1 s2 s3 s4) [(.int v815), (.ref (A 6))]) _
            refine XS.iconst X821.here hx rfl (hb hby d24_16) ?_
            refine XS.isub X821.here hx rfl (hb hby d24_17) rfl ?_
            show Sp p e below T821 (mkF m 18 (lt33 x al1 s2 s3 s4) [(.int (v815 - (1 : Int32))), (.ref (A 6))]) _
            refine X821.iaload hx (j := (v815 - (1 : Int32))) (v := (.int v825)) (by rw [e821]; exact Ar824.1) (State.isArrayOf_alike hZ.alike At824.2.1) At824.2.2 hin824 hat824 (g := (mkF m 18 (lt33 x al1 s2 s3 s4) [(.int (v815 - (1 : Int32))), (.ref (A 6))])) rfl rfl (hb hby d24_18) _ ?_
            show Sp p e below T821 (mkF m 19 (lt33 x al1 s2 s3 s4) [(.int v825)]) _
            refine XS.istoreNS X821.here hx rfl (hb hby d24_19) rfl rfl u2 ?_
            refine XS.iloadN X821.here hx rfl (hb hby d24_20) rfl ?_
            show Sp p e below T821 (mkF m 21 (lt29 x al1 v825 s3 s4) [(.int v825)]) _
            exact kt
          by_cases hc828 : v825 < (0 : Int32)
          · rw [own_ltT hc828] at hf826
            obtain ⟨T829, X829, e829, st829⟩ := getF X821 hx hZ hown (host := "") (Or.inl (hw _ (tk 39 rfl))) Via.refl e821 (B1.fld 4 rfl) (g := (mkF m 29 (lt19 x al1 v825 (v825 ^^^ (-1 : Int32)) s4) [(.ref x)])) rfl rfl (hb hby d24_29)
            obtain ⟨T830, X830, e830, st830⟩ := getF X829 hx hZ hown (host := "") (Or.inl (hw _ (tk 37 rfl))) Via.refl e829 (B1.fld 8 rfl) (g := (mkF m 34 (lt19 x al1 v825 (v825 ^^^ (-1 : Int32)) s4) [(.ref x), (.int (v825 ^^^ (-1 : Int32))), (.ref (A 2))])) rfl rfl (hb hby d24_34)
            obtain ⟨T831, X831, e831, st831⟩ := getF X830 hx hZ hown (host := "") (Or.inl (hw _ (tk 62 rfl))) Via.refl e830 (own_rwF d_v815 (B1.sca 0 rfl)) (g := (mkF m 38 (lt19 x al1 v825 (v825 ^^^ (-1 : Int32)) s4) [(.ref x), (.ref (A 6)), (.int (v825 ^^^ (-1 : Int32))), (.ref (A 2))])) rfl rfl (hb hby d24_38)
            obtain ⟨g832, hf833⟩ := own_gd hf826
            clear hf826
            obtain ⟨v835, d_v835, hf836⟩ := own_nai hf833
            clear hf833
            obtain ⟨cl834, Ar834, hin834, hat834⟩ := B1.get 6 (Or.inl (by decide)) g832 d_v835
            have At834 : Arr Z h1 (A 6) cl834 .int := Ar834
            obtain ⟨g837, hf838⟩ := own_gd hf836
            clear hf836
            obtain ⟨cl839, Ar839, hin839⟩ := B1.at 2 (Or.inl (by decide)) g837
            have At839 : Arr Z h1 (A 2) cl839 .int := Ar839
            obtain ⟨T840, h840, X840, e840, W840, st840⟩ := stI X831 hx hZ e831 At839 (j := (v825 ^^^ (-1 : Int32))) hin839 (g := (mkF m 44 (lt19 x al1 v825 (v825 ^^^ (-1 : Int32)) s4) [(.int v835), (.int (v825 ^^^ (-1 : Int32))), (.ref (A 2))])) rfl rfl (hb hby d24_44)
            obtain ⟨M840, d_M840, hf841⟩ := own_nam hf838
            clear hf838
            have B840 := B1.wr (v := v835) 2 (Or.inl (by decide)) g837 W840 rfl
            rw [← d_M840] at B840
            have O840 : Old Z n0 h840 := O1.wr W840 (B1.old 2 (Or.inl (by decide)))
            have N840 := Fr.snoc X840 N1 (B1.old 2 (Or.inl (by decide)))
            obtain ⟨T842, X842, e842, st842⟩ := getF X840 hx hZ hown (host := "") (Or.inl (hw _ (tk 41 rfl))) Via.refl e840 (B840.fld 5 rfl) (g := (mkF m 46 (lt19 x al1 v825 (v825 ^^^ (-1 : Int32)) s4) [(.ref x)])) rfl rfl (hb hby d24_46)
            obtain ⟨T843, X843, e843, st843⟩ := getF X842 hx hZ hown (host := "") (Or.inl (hw _ (tk 37 rfl))) Via.refl e842 (B840.fld 8 rfl) (g := (mkF m 51 (lt19 x al1 v825 (v825 ^^^ (-1 : Int32)) s4) [(.ref x), (.int (v825 ^^^ (-1 : Int32))), (.ref (A 3))])) rfl rfl (hb hby d24_51)
            obtain ⟨v844, d_v844, hf845⟩ := own_nai hf841
            clear hf841
            obtain ⟨T846, X846, e846, st846⟩ := getF X843 hx hZ hown (host := "") (Or.inl (hw _ (tk 62 rfl))) Via.refl e843 (own_rwF d_v844 (B840.sca 0 rfl)) (g := (mkF m 55 (lt19 x al1 v825 (v825 ^^^ (-1 : Int32)) s4) [(.ref x), (.ref (A 6)), (.int (v825 ^^^ (-1 : Int32))), (.ref (A 3))])) rfl rfl (hb hby d24_55)
            obtain ⟨g847, hf848⟩ := own_gd hf845
            clear hf845
            obtain ⟨v850, d_v850, hf851⟩ := own_nai hf848
            clear hf848
            obtain ⟨cl849, Ar849, hin849, hat849⟩ := B840.get 6 (Or.inl (by decide)) g847 d_v850
            have At849 : Arr Z h840 (A 6) cl849 .int := Ar849
            obtain ⟨g852, hf853⟩ := own_gd hf851
            clear hf851
            obtain ⟨cl854, Ar854, hin854⟩ := B840.at 3 (Or.inl (by decide)) g852
            have At854 : Arr Z h840 (A 3) cl854 .int := Ar854
            obtain ⟨T855, h855, X855, e855, W855, st855⟩ := stI X846 hx hZ e846 At854 (j := (v825 ^^^ (-1 : Int32))) hin854 (g := (mkF m 61 (lt19 x al1 v825 (v825 ^^^ (-1 : Int32)) s4) [(.int v850), (.int (v825 ^^^ (-1 : Int32))), (.ref (A 3))])) rfl rfl (hb hby d24_61)
            obtain ⟨M855, d_M855, hf856⟩ := own_nam hf853
            clear hf853
            have B855 := B840.wr (v := v850) 3 (Or.inl (by decide)) g852 W855 rfl
            rw [← d_M855] at B855
            have O855 : Old Z n0 h855 := O840.wr W855 (B840.old 3 (Or.inl (by decide)))
            have N855 := Fr.snoc X855 N840 (B840.old 3 (Or.inl (by decide)))
            obtain ⟨v857, d_v857, hf858⟩ := own_nai hf856
            clear hf856
            obtain ⟨T859, X859, e859, st859⟩ := getF X855 hx hZ hown (host := "") (Or.inl (hw _ (tk 62 rfl))) Via.refl e855 (own_rwF d_v857 (B855.sca 0 rfl)) (g := (mkF m 64 (lt19 x al1 v825 (v825 ^^^ (-1 : Int32)) s4) [(.ref x), (.ref x)])) rfl rfl (hb hby d24_64)
            obtain ⟨T860, h860, X860, e860, W860, st860⟩ := putF X859 hx hZ hown (host := "") (Or.inl (hw _ (tk 62 rfl))) Via.refl e859 (B855.sca 0 rfl) B855.exa (Or.inl (hw _ (tk 63 rfl))) (hw _ (tk 1 rfl)) (ty := .int) (by decide) rfl rfl (g := (mkF m 69 (lt19 x al1 v825 (v825 ^^^ (-1 : Int32)) s4) [(.int (v857 - (3 : Int32))), (.ref x)])) rfl rfl (hb hby d24_69)
            obtain ⟨M860, d_M860, hf861⟩ := own_nam hf858
            clear hf858
            have B860 := B855.put hSl 0 rfl W860
            rw [← d_M860] at B860
            have O860 : Old Z n0 h860 := O855.wr W860 B855.oldx
            have N860 := Fr.snoc X860 N855 B855.oldx
            have pre862 : Cm p e below E0 (T860.setTop (mkF m 0 (lt19 x al1 v825 (v825 ^^^ (-1 : Int32)) s4) [])) := fun t kt => by
              refine pre827 t ?_
              show Sp p e below T821 (mkF m 21 (lt29 x al1 v825 s3 s4) [(.int v825)]) _
              refine XS.ifNo X821.here hx rfl (hb hby d24_21) rfl ((if0 _ _).trans (tlt hc828).2.1) ?_
              show Sp p e below T821 (mkF m 24 (lt29 x al1 v825 s3 s4) []) _
              refine XS.iloadN X821.here hx rfl (hb hby d24_24) rfl ?_
              refine XS.iconst X821.here hx rfl (hb hby d24_25) ?_
              show Sp p e below T821 (mkF m 26 (lt29 x al1 v825 s3 s4) [(.int (-1 : Int32)), (.int v825)]) _
              refine XS.ixor X821.here hx rfl (hb hby d24_26) rfl ?_
              refine XS.istoreNS X821.here hx rfl (hb hby d24_27) rfl rfl u3 ?_
              show Sp p e below T821 (mkF m 28 (lt19 x al1 v825 (v825 ^^^ (-1 : Int32)) s4) []) _
              refine XS.aloadN X821.here hx rfl (hb hby d24_28) rfl rfl ?_
              show Sp p e below T821 (mkF m 29 (lt19 x al1 v825 (v825 ^^^ (-1 : Int32)) s4) [(.ref x)]) _
              refine st829 _ ?_
              show Sp p e below T829 (mkF m 32 (lt19 x al1 v825 (v825 ^^^ (-1 : Int32)) s4) [(.ref (A 2))]) _
              refine XS.iloadN X829.here hx rfl (hb hby d24_32) rfl ?_
              refine XS.aloadN X829.here hx rfl (hb hby d24_33) rfl rfl ?_
              show Sp p e below T829 (mkF m 34 (lt19 x al1 v825 (v825 ^^^ (-1 : Int32)) s4) [(.ref x), (.int (v825 ^^^ (-1 : Int32))), (.ref (A 2))]) _
              refine st830 _ ?_
              show Sp p e below T830 (mkF m 37 (lt19 x al1 v825 (v825 ^^^ (-1 : Int32)) s4) [(.ref (A 6)), (.int (v825 ^^^ (-1 : Int32))), (.ref (A 2))]) _
              refine XS.aloadN X830.here hx rfl (hb hby d24_37) rfl rfl ?_
              show Sp p e below T830 (mkF m 38 (lt19 x al1 v825 (v825 ^^^ (-1 : Int32)) s4) [(.ref x), (.ref (A 6)), (.int (v825 ^^^ (-1 : Int32))), (.ref (A 2))]) _
              refine st831 _ ?_
              show Sp p e below T831 (mkF m 41 (lt19 x al1 v825 (v825 ^^^ (-1 : Int32)) s4) [(.int v815), (.ref (A 6)), (.int (v825 ^^^ (-1 : Int32))), (.ref (A 2))]) _
              refine XS.iconst X831.here hx rfl (hb hby d24_41) ?_
              refine XS.isub X831.here hx rfl (hb hby d24_42) rfl ?_
              show Sp p e below T831 (mkF m 43 (lt19 x al1 v825 (v825 ^^^ (-1 : Int32)) s4) [(.int (v815 - (3 : Int32))), (.ref (A 6)), (.int (v825 ^^^ (-1 : Int32))), (.ref (A 2))]) _
              refine X831.iaload hx (j := (v815 - (3 : Int32))) (v := (.int v835)) (by rw [e831]; exact Ar834.1) (State.isArrayOf_alike hZ.alike At834.2.1) At834.2.2 hin834 hat834 (g := (mkF m 43 (lt19 x al1 v825 (v825 ^^^ (-1 : Int32)) s4) [(.int (v815 - (3 : Int32))), (.ref (A 6)), (.int (v825 ^^^ (-1 : Int32))), (.ref (A 2))])) rfl rfl (hb hby d24_43) _ ?_
              show Sp p e below T831 (mkF m 44 (lt19 x al1 v825 (v825 ^^^ (-1 : Int32)) s4) [(.int v835), (.int (v825 ^^^ (-1 : Int32))), (.ref (A 2))]) _
              refine st840 _ ?_
              show Sp p e below T840 (mkF m 45 (lt19 x al1 v825 (v825 ^^^ (-1 : Int32)) s4) []) _
              refine XS.aloadN X840.here hx rfl (hb hby d24_45) rfl rfl ?_
              show Sp p e below T840 (mkF m 46 (lt19 x al1 v825 (v825 ^^^ (-1 : Int32)) s4) [(.ref x)]) _
              refine st842 _ ?_
              show Sp p e below T842 (mkF m 49 (lt19 x al1 v825 (v825 ^^^ (-1 : Int32)) s4) [(.ref (A 3))]) _
              refine XS.iloadN X842.here hx rfl (hb hby d24_49) rfl ?_
              refine XS.aloadN X842.here hx rfl (hb hby d24_50) rfl rfl ?_
              show Sp p e below T842 (mkF m 51 (lt19 x al1 v825 (v825 ^^^ (-1 : Int32)) s4) [(.ref x), (.int (v825 ^^^ (-1 : Int32))), (.ref (A 3))]) _
              refine st843 _ ?_
              show Sp p e below T843 (mkF m 54 (lt19 x al1 v825 (v825 ^^^ (-1 : Int32)) s4) [(.ref (A 6)), (.int (v825 ^^^ (-1 : Int32))), (.ref (A 3))]) _
              refine XS.aloadN X843.here hx rfl (hb hby d24_54) rfl rfl ?_
              show Sp p e below T843 (mkF m 55 (lt19 x al1 v825 (v825 ^^^ (-1 : Int32)) s4) [(.ref x), (.ref (A 6)), (.int (v825 ^^^ (-1 : Int32))), (.ref (A 3))]) _
              refine st846 _ ?_
              show Sp p e below T846 (mkF m 58 (lt19 x al1 v825 (v825 ^^^ (-1 : Int32)) s4) [(.int v844), (.ref (A 6)), (.int (v825 ^^^ (-1 : Int32))), (.ref (A 3))]) _
              refine XS.iconst X846.here hx rfl (hb hby d24_58) ?_
              refine XS.isub X846.here hx rfl (hb hby d24_59) rfl ?_
              show Sp p e below T846 (mkF m 60 (lt19 x al1 v825 (v825 ^^^ (-1 : Int32)) s4) [(.int (v844 - (2 : Int32))), (.ref (A 6)), (.int (v825 ^^^ (-1 : Int32))), (.ref (A 3))]) _
              refine X846.iaload hx (j := (v844 - (2 : Int32))) (v := (.int v850)) (by rw [e846]; exact Ar849.1) (State.isArrayOf_alike hZ.alike At849.2.1) At849.2.2 hin849 hat849 (g := (mkF m 60 (lt19 x al1 v825 (v825 ^^^ (-1 : Int32)) s4) [(.int (v844 - (2 : Int32))), (.ref (A 6)), (.int (v825 ^^^ (-1 : Int32))), (.ref (A 3))])) rfl rfl (hb hby d24_60) _ ?_
              show Sp p e below T846 (mkF m 61 (lt19 x al1 v825 (v825 ^^^ (-1 : Int32)) s4) [(.int v850), (.int (v825 ^^^ (-1 : Int32))), (.ref (A 3))]) _
              refine st855 _ ?_
              show Sp p e below T855 (mkF m 62 (lt19 x al1 v825 (v825 ^^^ (-1 : Int32)) s4) []) _
              refine XS.aloadN X855.here hx rfl (hb hby d24_62) rfl rfl ?_
              refine XS.dup X855.here hx rfl (hb hby d24_63) rfl rfl ?_
              show Sp p e below T855 (mkF m 64 (lt19 x al1 v825 (v825 ^^^ (-1 : Int32)) s4) [(.ref x), (.ref x)]) _
              refine st859 _ ?_
              show Sp p e below T859 (mkF m 67 (lt19 x al1 v825 (v825 ^^^ (-1 : Int32)) s4) [(.int v857), (.ref x)]) _
              refine XS.iconst X859.here hx rfl (hb hby d24_67) ?_
              refine XS.isub X859.here hx rfl (hb hby d24_68) rfl ?_
              show Sp p e below T859 (mkF m 69 (lt19 x al1 v825 (v825 ^^^ (-1 : Int32)) s4) [(.int (v857 - (3 : Int32))), (.ref x)]) _
              refine st860 _ ?_
              show Sp p e below T860 (mkF m 72 (lt19 x al1 v825 (v825 ^^^ (-1 : Int32)) s4) []) _
              refine XS.goto X860.here hx rfl (pc0 := 72) (pc' := 0) rfl (hb hby d24_72) (by decide) (by decide) ?_
              show Sp p e below T860 (mkF m 0 (lt19 x al1 v825 (v825 ^^^ (-1 : Int32)) s4) []) _
              exact kt
            exact ih M860 al1 (.val (.int v825)) (.val (.int (v825 ^^^ (-1 : Int32)))) s4 (Or.inr ⟨_, rfl, rfl⟩) (Or.inr ⟨_, rfl, rfl⟩) u4 T860 _ _ X860 e860 O860 N860 B860 hf861 pre862
          · rw [own_ltF hc828] at hf826
            obtain ⟨T863, X863, e863, st863⟩ := getF X821 hx hZ hown (host := "") (Or.inl (hw _ (tk 37 rfl))) Via.refl e821 (B1.fld 8 rfl) (g := (mkF m 76 (lt29 x al1 v825 s3 s4) [(.ref x)])) rfl rfl (hb hby d24_76)
            obtain ⟨T864, X864, e864, st864⟩ := getF X863 hx hZ hown (host := "") (Or.inl (hw _ (tk 62 rfl))) Via.refl e863 (own_rwF d_v815 (B1.sca 0 rfl)) (g := (mkF m 80 (lt29 x al1 v825 s3 s4) [(.ref x), (.ref (A 6))])) rfl rfl (hb hby d24_80)
            obtain ⟨g865, hf866⟩ := own_gd hf826
            clear hf826
            obtain ⟨v868, d_v868, hf869⟩ := own_nai hf866
            clear hf866
            obtain ⟨cl867, Ar867, hin867, hat867⟩ := B1.get 6 (Or.inl (by decide)) g865 d_v868
            have At867 : Arr Z h1 (A 6) cl867 .int := Ar867
            obtain ⟨T870, X870, e870, st870⟩ := getF X864 hx hZ hown (host := "") (Or.inl (hw _ (tk 62 rfl))) Via.refl e864 (own_rwF d_v815 (B1.sca 0 rfl)) (g := (mkF m 92 (lt25 x al1 v825 v868 v825) [(.ref x), (.ref x)])) rfl rfl (hb hby d24_92)
            obtain ⟨T871, h871, X871, e871, W871, st871⟩ := putF X870 hx hZ hown (host := "") (Or.inl (hw _ (tk 62 rfl))) Via.refl e870 (B1.sca 0 rfl) B1.exa (Or.inl (hw _ (tk 63 rfl))) (hw _ (tk 1 rfl)) (ty := .int) (by decide) rfl rfl (g := (mkF m 97 (lt25 x al1 v825 v868 v825) [(.int (v815 - (2 : Int32))), (.ref x)])) rfl rfl (hb hby d24_97)
            obtain ⟨M871, d_M871, hf872⟩ := own_nam hf869
            clear hf869
            have B871 := B1.put hSl 0 rfl W871
            rw [← d_M871] at B871
            have O871 : Old Z n0 h871 := O1.wr W871 B1.oldx
            have N871 := Fr.snoc X871 N1 B1.oldx
            obtain ⟨T873, h873, X873, e873, W873, st873⟩ := putFN X871 hx hZ hown (hw _ (tk 69 rfl)) Via.refl e871 (B871.sca 1 rfl) B871.exa (Or.inl (hw _ (tk 70 rfl))) (hw _ (tk 1 rfl)) (ty := .boolean) (v' := (.int (0 : Int32))) (by decide) rfl (by decide) (g := (mkF m 102 (lt25 x al1 v825 v868 v825) [(.int (0 : Int32)), (.ref x)])) rfl rfl (hb hby d24_102)
            obtain ⟨M873, d_M873, hf874⟩ := own_nam hf872
            clear hf872
            have B873 := B871.put hSl 1 rfl W873
            rw [← d_M873] at B873
            have O873 : Old Z n0 h873 := O871.wr W873 B871.oldx
            have N873 := Fr.snoc X873 N871 B871.oldx
            obtain ⟨T875, X875, e875, st875⟩ := getF X873 hx hZ hown (host := "") (Or.inl (hw _ (tk 21 rfl))) Via.refl e873 (B873.fld 1 rfl) (g := (mkF m 106 (lt25 x al1 v825 v868 v825) [(.ref x)])) rfl rfl (hb hby d24_106)
            obtain ⟨g876, hf877⟩ := own_gd hf874
            clear hf874
            obtain ⟨cl878, Ar878, hin878, hat878⟩ := B873.getS g876
            obtain ⟨g879, hf880⟩ := own_gd hf877
            clear hf877
            obtain ⟨v882, d_v882, hf883⟩ := own_nai hf880
            clear hf880
            obtain ⟨cl881, Ar881, hin881, hat881⟩ := B873.get (14 + ix v868) (B873.isS g876) (own_gS g879) d_v882
            have At881 := own_tyA Ar881
            have pre884 : Cm p e below E0 (T875.setTop (mkF m 115 (lt25 x al1 v825 v868 v825) [(.int (1 : Int32)), (.int v882)])) := fun t kt => by
              refine pre827 t ?_
              show Sp p e below T821 (mkF m 21 (lt29 x al1 v825 s3 s4) [(.int v825)]) _
              refine XS.ifYes X821.here hx rfl (pc0 := 21) (pc' := 75) rfl (hb hby d24_21) rfl ((if0 _ _).trans (flt hc828).2.1) (by decide) (by decide) ?_
              show Sp p e below T821 (mkF m 75 (lt29 x al1 v825 s3 s4) []) _
              refine XS.aloadN X821.here hx rfl (hb hby d24_75) rfl rfl ?_
              show Sp p e below T821 (mkF m 76 (lt29 x al1 v825 s3 s4) [(.ref x)]) _
              refine st863 _ ?_
              show Sp p e below T863 (mkF m 79 (lt29 x al1 v825 s3 s4) [(.ref (A 6))]) _
              refine XS.aloadN X863.here hx rfl (hb hby d24_79) rfl rfl ?_
              show Sp p e below T863 (mkF m 80 (lt29 x al1 v825 s3 s4) [(.ref x), (.ref (A 6))]) _
              refine st864 _ ?_
              show Sp p e below T864 (mkF m 83 (lt29 x al1 v825 s3 s4) [(.int v815), (.ref (A 6))]) _
              refine XS.iconst X864.here hx rfl (hb hby d24_83) ?_
              refine XS.isub X864.here hx rfl (hb hby d24_84) rfl ?_
              show Sp p e below T864 (mkF m 85 (lt29 x al1 v825 s3 s4) [(.int (v815 - (2 : Int32))), (.ref (A 6))]) _
              refine X864.iaload hx (j := (v815 - (2 : Int32))) (v := (.int v868)) (by rw [e864]; exact Ar867.1) (State.isArrayOf_alike hZ.alike At867.2.1) At867.2.2 hin867 hat867 (g := (mkF m 85 (lt29 x al1 v825 s3 s4) [(.int (v815 - (2 : Int32))), (.ref (A 6))])) rfl rfl (hb hby d24_85) _ ?_
              show Sp p e below T864 (mkF m 86 (lt29 x al1 v825 s3 s4) [(.int v868)]) _
              refine XS.istoreNS X864.here hx rfl (hb hby d24_86) rfl rfl u3 ?_
              refine XS.iloadN X864.here hx rfl (hb hby d24_87) rfl ?_
              show Sp p e below T864 (mkF m 88 (lt19 x al1 v825 v868 s4) [(.int v825)]) _
              refine XS.istoreS X864.here hx rfl (hb hby d24_88) rfl rfl u4 ?_
              refine XS.aloadN X864.here hx rfl (hb hby d24_90) rfl rfl ?_
              show Sp p e below T864 (mkF m 91 (lt25 x al1 v825 v868 v825) [(.ref x)]) _
              refine XS.dup X864.here hx rfl (hb hby d24_91) rfl rfl ?_
              show Sp p e below T864 (mkF m 92 (lt25 x al1 v825 v868 v825) [(.ref x), (.ref x)]) _
              refine st870 _ ?_
              show Sp p e below T870 (mkF m 95 (lt25 x al1 v825 v868 v825) [(.int v815), (.ref x)]) _
              refine XS.iconst X870.here hx rfl (hb hby d24_95) ?_
              refine XS.isub X870.here hx rfl (hb hby d24_96) rfl ?_
              show Sp p e below T870 (mkF m 97 (lt25 x al1 v825 v868 v825) [(.int (v815 - (2 : Int32))), (.ref x)]) _
              refine st871 _ ?_
              show Sp p e below T871 (mkF m 100 (lt25 x al1 v825 v868 v825) []) _
              refine XS.aloadN X871.here hx rfl (hb hby d24_100) rfl rfl ?_
              refine XS.iconst X871.here hx rfl (hb hby d24_101) ?_
              show Sp p e below T871 (mkF m 102 (lt25 x al1 v825 v868 v825) [(.int (0 : Int32)), (.ref x)]) _
              refine st873 _ ?_
              show Sp p e below T873 (mkF m 105 (lt25 x al1 v825 v868 v825) []) _
              refine XS.aloadN X873.here hx rfl (hb hby d24_105) rfl rfl ?_
              show Sp p e below T873 (mkF m 106 (lt25 x al1 v825 v868 v825) [(.ref x)]) _
              refine st875 _ ?_
              show Sp p e below T875 (mkF m 109 (lt25 x al1 v825 v868 v825) [(.ref S0)]) _
              refine XS.iloadN X875.here hx rfl (hb hby d24_109) rfl ?_
              show Sp p e below T875 (mkF m 110 (lt25 x al1 v825 v868 v825) [(.int v868), (.ref S0)]) _
              refine X875.aaload hx (j := v868) (v := .ref (A (14 + ix v868))) (by rw [e875]; exact Ar878.1) (State.isArrayOf_alike hZ.alike Ar878.2.1) rfl Ar878.2.2 hin878 hat878 (g := (mkF m 110 (lt25 x al1 v825 v868 v825) [(.int v868), (.ref S0)])) rfl rfl (hb hby d24_110) _ ?_
              show Sp p e below T875 (mkF m 111 (lt25 x al1 v825 v868 v825) [(.ref (A (14 + ix v868)))]) _
              refine XS.iload X875.here hx rfl (hb hby d24_111) rfl ?_
              show Sp p e below T875 (mkF m 113 (lt25 x al1 v825 v868 v825) [(.int v825), (.ref (A (14 + ix v868)))]) _
              refine X875.baloadBytes hx (j := v825) (v := (.int v882)) (by rw [e875]; exact Ar881.1) (State.isArrayOf_alike hZ.alike At881.2.1) At881.2.2 hin881 hat881 (g := (mkF m 113 (lt25 x al1 v825 v868 v825) [(.int v825), (.ref (A (14 + ix v868)))])) rfl rfl (hb hby d24_113) _ ?_
              show Sp p e below T875 (mkF m 114 (lt25 x al1 v825 v868 v825) [(.int v882)]) _
              refine XS.iconst X875.here hx rfl (hb hby d24_114) ?_
              show Sp p e below T875 (mkF m 115 (lt25 x al1 v825 v868 v825) [(.int (1 : Int32)), (.int v882)]) _
              exact kt
            by_cases hc885 : v882 = (1 : Int32)
            · rw [own_eqT hc885] at hf883
              obtain ⟨T886, X886, e886, st886⟩ := getF X875 hx hZ hown (host := "") (Or.inl (hw _ (tk 24 rfl))) Via.refl e875 (B873.fld 2 rfl) (g := (mkF m 119 (lt25 x al1 v825 v868 v825) [(.ref x)])) rfl rfl (hb hby d24_119)
              obtain ⟨g887, hf888⟩ := own_gd hf883
              clear hf883
              obtain ⟨v890, d_v890, hf891⟩ := own_nai hf888
              clear hf888
              obtain ⟨cl889, Ar889, hin889, hat889⟩ := B873.get 0 (Or.inl (by decide)) g887 d_v890
              have At889 : Arr Z h873 (A 0) cl889 .int := Ar889
              obtain ⟨cl892, Ar892, hin892⟩ := B873.at 0 (Or.inl (by decide)) g887
              have At892 : Arr Z h873 (A 0) cl892 .int := Ar892
              obtain ⟨T893, h893, X893, e893, W893, st893⟩ := stI X886 hx hZ e886 At892 (j := v868) hin892 (g := (mkF m 127 (lt25 x al1 v825 v868 v825) [(.int (v890 - (1 : Int32))), (.int v868), (.ref (A 0))])) rfl rfl (hb hby d24_127)
              obtain ⟨M893, d_M893, hf894⟩ := own_nam hf891
              clear hf891
              have B893 := B873.wr (v := (v890 - (1 : Int32))) 0 (Or.inl (by decide)) g887 W893 rfl
              rw [← d_M893] at B893
              have O893 : Old Z n0 h893 := O873.wr W893 (B873.old 0 (Or.inl (by decide)))
              have N893 := Fr.snoc X893 N873 (B873.old 0 (Or.inl (by decide)))
              obtain ⟨T895, X895, e895, st895⟩ := getF X893 hx hZ hown (host := "") (Or.inl (hw _ (tk 24 rfl))) Via.refl e893 (B893.fld 2 rfl) (g := (mkF m 129 (lt25 x al1 v825 v868 v825) [(.ref x)])) rfl rfl (hb hby d24_129)
              obtain ⟨g896, hf897⟩ := own_gd hf894
              clear hf894
              obtain ⟨v899, d_v899, hf900⟩ := own_nai hf897
              clear hf897
              obtain ⟨cl898, Ar898, hin898, hat898⟩ := B893.get 0 (Or.inl (by decide)) g896 d_v899
              have At898 : Arr Z h893 (A 0) cl898 .int := Ar898
              obtain ⟨cl901, Ar901, hin901⟩ := B893.at 0 (Or.inl (by decide)) g896
              have At901 : Arr Z h893 (A 0) cl901 .int := Ar901
              obtain ⟨T902, h902, X902, e902, W902, st902⟩ := stI X895 hx hZ e895 At901 (j := v825) hin901 (g := (mkF m 138 (lt25 x al1 v825 v868 v825) [(.int (v899 - (1 : Int32))), (.int v825), (.ref (A 0))])) rfl rfl (hb hby d24_138)
              obtain ⟨M902, d_M902, hf903⟩ := own_nam hf900
              clear hf900
              have B902 := B893.wr (v := (v899 - (1 : Int32))) 0 (Or.inl (by decide)) g896 W902 rfl
              rw [← d_M902] at B902
              have O902 : Old Z n0 h902 := O893.wr W902 (B893.old 0 (Or.inl (by decide)))
              have N902 := Fr.snoc X902 N893 (B893.old 0 (Or.inl (by decide)))
              obtain ⟨T904, X904, e904, st904⟩ := getF X902 hx hZ hown (host := "") (Or.inl (hw _ (tk 21 rfl))) Via.refl e902 (B902.fld 1 rfl) (g := (mkF m 164 (lt25 x al1 v825 v868 v825) [(.ref x)])) rfl rfl (hb hby d24_164)
              obtain ⟨cl905, Ar905, hin905, hat905⟩ := B902.getS g876
              obtain ⟨cl906, Ar906, hin906⟩ := B902.at (14 + ix v868) (B902.isS g876) (own_gS g879)
              have At906 := own_tyA Ar906
              obtain ⟨T907, h907, X907, e907, W907, st907⟩ := stB X904 hx hZ e904 At906 (j := v825) hin906 (g := (mkF m 172 (lt25 x al1 v825 v868 v825) [(.int (0 : Int32)), (.int v825), (.ref (A (14 + ix v868)))])) rfl rfl (hb hby d24_172)
              obtain ⟨M907, d_M907, hf908⟩ := own_nam hf903
              clear hf903
              have B907 := B902.wr (v := (0 : Int32)) (14 + ix v868) (B902.isS g876) (own_gS g879) W907 (own_fitS (by decide))
              rw [← d_M907] at B907
              have O907 : Old Z n0 h907 := O902.wr W907 (B902.old (14 + ix v868) (B902.isS g876))
              have N907 := Fr.snoc X907 N902 (B902.old (14 + ix v868) (B902.isS g876))
              obtain ⟨T909, X909, e909, st909⟩ := getF X907 hx hZ hown (host := "") (Or.inl (hw _ (tk 21 rfl))) Via.refl e907 (B907.fld 1 rfl) (g := (mkF m 174 (lt25 x al1 v825 v868 v825) [(.ref x)])) rfl rfl (hb hby d24_174)
              obtain ⟨cl910, Ar910, hin910, hat910⟩ := B907.getS g879
              obtain ⟨cl911, Ar911, hin911⟩ := B907.at (14 + ix v825) (B907.isS g879) (own_gS g876)
              have At911 := own_tyA Ar911
              obtain ⟨T912, h912, X912, e912, W912, st912⟩ := stB X909 hx hZ e909 At911 (j := v868) hin911 (g := (mkF m 182 (lt25 x al1 v825 v868 v825) [(.int (0 : Int32)), (.int v868), (.ref (A (14 + ix v825)))])) rfl rfl (hb hby d24_182)
              obtain ⟨M912, d_M912, hf913⟩ := own_nam hf908
              clear hf908
              have B912 := B907.wr (v := (0 : Int32)) (14 + ix v825) (B907.isS g879) (own_gS g876) W912 (own_fitS (by decide))
              rw [← d_M912] at B912
              have O912 : Old Z n0 h912 := O907.wr W912 (B907.old (14 + ix v825) (B907.isS g879))
              have N912 := Fr.snoc X912 N907 (B907.old (14 + ix v825) (B907.isS g879))
              have pre914 : Cm p e below E0 (T912.setTop (mkF m 0 (lt25 x al1 v825 v868 v825) [])) := fun t kt => by
                refine pre884 t ?_
                show Sp p e below T875 (mkF m 115 (lt25 x al1 v825 v868 v825) [(.int (1 : Int32)), (.int v882)]) _
                refine XS.icmpNo X875.here hx rfl (hb hby d24_115) rfl (teq hc885).2 ?_
                show Sp p e below T875 (mkF m 118 (lt25 x al1 v825 v868 v825) []) _
                refine XS.aloadN X875.here hx rfl (hb hby d24_118) rfl rfl ?_
                show Sp p e below T875 (mkF m 119 (lt25 x al1 v825 v868 v825) [(.ref x)]) _
                refine st886 _ ?_
                show Sp p e below T886 (mkF m 122 (lt25 x al1 v825 v868 v825) [(.ref (A 0))]) _
                refine XS.iloadN X886.here hx rfl (hb hby d24_122) rfl ?_
                show Sp p e below T886 (mkF m 123 (lt25 x al1 v825 v868 v825) [(.int v868), (.ref (A 0))]) _
                refine XT.dup2 X886.here hx rfl (hb hby d24_123) rfl rfl rfl ?_
                show Sp p e below T886 (mkF m 124 (lt25 x al1 v825 v868 v825) [(.int v868), (.ref (A 0)), (.int v868), (.ref (A 0))]) _
                refine X886.iaload hx (j := v868) (v := (.int v890)) (by rw [e886]; exact Ar889.1) (State.isArrayOf_alike hZ.alike At889.2.1) At889.2.2 hin889 hat889 (g := (mkF m 124 (lt25 x al1 v825 v868 v825) [(.int v868), (.ref (A 0)), (.int v868), (.ref (A 0))])) rfl rfl (hb hby d24_124) _ ?_
                show Sp p e below T886 (mkF m 125 (lt25 x al1 v825 v868 v825) [(.int v890), (.int v868), (.ref (A 0))]) _
                refine XS.iconst X886.here hx rfl (hb hby d24_125) ?_
                refine XS.isub X886.here hx rfl (hb hby d24_126) rfl ?_
                show Sp p e below T886 (mkF m 127 (lt25 x al1 v825 v868 v825) [(.int (v890 - (1 : Int32))), (.int v868), (.ref (A 0))]) _
                refine st893 _ ?_
                show Sp p e below T893 (mkF m 128 (lt25 x al1 v825 v868 v825) []) _
                refine XS.aloadN X893.here hx rfl (hb hby d24_128) rfl rfl ?_
                show Sp p e below T893 (mkF m 129 (lt25 x al1 v825 v868 v825) [(.ref x)]) _
                refine st895 _ ?_
                show Sp p e below T895 (mkF m 132 (lt25 x al1 v825 v868 v825) [(.ref (A 0))]) _
                refine XS.iload X895.here hx rfl (hb hby d24_132) rfl ?_
                show Sp p e below T895 (mkF m 134 (lt25 x al1 v825 v868 v825) [(.int v825), (.ref (A 0))]) _
                refine XT.dup2 X895.here hx rfl (hb hby d24_134) rfl rfl rfl ?_
                show Sp p e below T895 (mkF m 135 (lt25 x al1 v825 v868 v825) [(.int v825), (.ref (A 0)), (.int v825), (.ref (A 0))]) _
                refine X895.iaload hx (j := v825) (v := (.int v899)) (by rw [e895]; exact Ar898.1) (State.isArrayOf_alike hZ.alike At898.2.1) At898.2.2 hin898 hat898 (g := (mkF m 135 (lt25 x al1 v825 v868 v825) [(.int v825), (.ref (A 0)), (.int v825), (.ref (A 0))])) rfl rfl (hb hby d24_135) _ ?_
                show Sp p e below T895 (mkF m 136 (lt25 x al1 v825 v868 v825) [(.int v899), (.int v825), (.ref (A 0))]) _
                refine XS.iconst X895.here hx rfl (hb hby d24_136) ?_
                refine XS.isub X895.here hx rfl (hb hby d24_137) rfl ?_
                show Sp p e below T895 (mkF m 138 (lt25 x al1 v825 v868 v825) [(.int (v899 - (1 : Int32))), (.int v825), (.ref (A 0))]) _
                refine st902 _ ?_
                show Sp p e below T902 (mkF m 139 (lt25 x al1 v825 v868 v825) []) _
                refine XS.goto X902.here hx rfl (pc0 := 139) (pc' := 163) rfl (hb hby d24_139) (by decide) (by decide) ?_
                show Sp p e below T902 (mkF m 163 (lt25 x al1 v825 v868 v825) []) _
                refine XS.aloadN X902.here hx rfl (hb hby d24_163) rfl rfl ?_
                show Sp p e below T902 (mkF m 164 (lt25 x al1 v825 v868 v825) [(.ref x)]) _
                refine st904 _ ?_
                show Sp p e below T904 (mkF m 167 (lt25 x al1 v825 v868 v825) [(.ref S0)]) _
                refine XS.iloadN X904.here hx rfl (hb hby d24_167) rfl ?_
                show Sp p e below T904 (mkF m 168 (lt25 x al1 v825 v868 v825) [(.int v868), (.ref S0)]) _
                refine X904.aaload hx (j := v868) (v := .ref (A (14 + ix v868))) (by rw [e904]; exact Ar905.1) (State.isArrayOf_alike hZ.alike Ar905.2.1) rfl Ar905.2.2 hin905 hat905 (g := (mkF m 168 (lt25 x al1 v825 v868 v825) [(.int v868), (.ref S0)])) rfl rfl (hb hby d24_168) _ ?_
                show Sp p e below T904 (mkF m 169 (lt25 x al1 v825 v868 v825) [(.ref (A (14 + ix v868)))]) _
                refine XS.iload X904.here hx rfl (hb hby d24_169) rfl ?_
                refine XS.iconst X904.here hx rfl (hb hby d24_171) ?_
                show Sp p e below T904 (mkF m 172 (lt25 x al1 v825 v868 v825) [(.int (0 : Int32)), (.int v825), (.ref (A (14 + ix v868)))]) _
                refine st907 _ ?_
                show Sp p e below T907 (mkF m 173 (lt25 x al1 v825 v868 v825) []) _
                refine XS.aloadN X907.here hx rfl (hb hby d24_173) rfl rfl ?_
                show Sp p e below T907 (mkF m 174 (lt25 x al1 v825 v868 v825) [(.ref x)]) _
                refine st909 _ ?_
                show Sp p e below T909 (mkF m 177 (lt25 x al1 v825 v868 v825) [(.ref S0)]) _
                refine XS.iload X909.here hx rfl (hb hby d24_177) rfl ?_
                show Sp p e below T909 (mkF m 179 (lt25 x al1 v825 v868 v825) [(.int v825), (.ref S0)]) _
                refine X909.aaload hx (j := v825) (v := .ref (A (14 + ix v825))) (by rw [e909]; exact Ar910.1) (State.isArrayOf_alike hZ.alike Ar910.2.1) rfl Ar910.2.2 hin910 hat910 (g := (mkF m 179 (lt25 x al1 v825 v868 v825) [(.int v825), (.ref S0)])) rfl rfl (hb hby d24_179) _ ?_
                show Sp p e below T909 (mkF m 180 (lt25 x al1 v825 v868 v825) [(.ref (A (14 + ix v825)))]) _
                refine XS.iloadN X909.here hx rfl (hb hby d24_180) rfl ?_
                refine XS.iconst X909.here hx rfl (hb hby d24_181) ?_
                show Sp p e below T909 (mkF m 182 (lt25 x al1 v825 v868 v825) [(.int (0 : Int32)), (.int v868), (.ref (A (14 + ix v825)))]) _
                refine st912 _ ?_
                show Sp p e below T912 (mkF m 183 (lt25 x al1 v825 v868 v825) []) _
                refine XS.goto X912.here hx rfl (pc0 := 183) (pc' := 0) rfl (hb hby d24_183) (by decide) (by decide) ?_
                show Sp p e below T912 (mkF m 0 (lt25 x al1 v825 v868 v825) []) _
                exact kt
              exact ih M912 al1 (.val (.int v825)) (.val (.int v868)) (.val (.int v825)) (Or.inr ⟨_, rfl, rfl⟩) (Or.inr ⟨_, rfl, rfl⟩) (Or.inr ⟨_, rfl, rfl⟩) T912 _ _ X912 e912 O912 N912 B912 hf913 pre914
            · rw [own_eqF hc885] at hf883
              obtain ⟨T915, X915, e915, st915⟩ := getF X875 hx hZ hown (host := "") (Or.inl (hw _ (tk 26 rfl))) Via.refl e875 (B873.fld 3 rfl) (g := (mkF m 143 (lt25 x al1 v825 v868 v825) [(.ref x)])) rfl rfl (hb hby d24_143)
              obtain ⟨g916, hf917⟩ := own_gd hf883
              clear hf883
              obtain ⟨v919, d_v919, hf920⟩ := own_nai hf917
              clear hf917
              obtain ⟨cl918, Ar918, hin918, hat918⟩ := B873.get 1 (Or.inl (by decide)) g916 d_v919
              have At918 : Arr Z h873 (A 1) cl918 .int := Ar918
              obtain ⟨cl921, Ar921, hin921⟩ := B873.at 1 (Or.inl (by decide)) g916
              have At921 : Arr Z h873 (A 1) cl921 .int := Ar921
              obtain ⟨T922, h922, X922, e922, W922, st922⟩ := stI X915 hx hZ e915 At921 (j := v868) hin921 (g := (mkF m 151 (lt25 x al1 v825 v868 v825) [(.int (v919 + (1 : Int32))), (.int v868), (.ref (A 1))])) rfl rfl (hb hby d24_151)
              obtain ⟨M922, d_M922, hf923⟩ := own_nam hf920
              clear hf920
              have B922 := B873.wr (v := (v919 + (1 : Int32))) 1 (Or.inl (by decide)) g916 W922 rfl
              rw [← d_M922] at B922
              have O922 : Old Z n0 h922 := O873.wr W922 (B873.old 1 (Or.inl (by decide)))
              have N922 := Fr.snoc X922 N873 (B873.old 1 (Or.inl (by decide)))
              obtain ⟨T924, X924, e924, st924⟩ := getF X922 hx hZ hown (host := "") (Or.inl (hw _ (tk 26 rfl))) Via.refl e922 (B922.fld 3 rfl) (g := (mkF m 153 (lt25 x al1 v825 v868 v825) [(.ref x)])) rfl rfl (hb hby d24_153)
              obtain ⟨g925, hf926⟩ := own_gd hf923
              clear hf923
              obtain ⟨v928, d_v928, hf929⟩ := own_nai hf926
              clear hf926
              obtain ⟨cl927, Ar927, hin927, hat927⟩ := B922.get 1 (Or.inl (by decide)) g925 d_v928
              have At927 : Arr Z h922 (A 1) cl927 .int := Ar927
              obtain ⟨cl930, Ar930, hin930⟩ := B922.at 1 (Or.inl (by decide)) g925
              have At930 : Arr Z h922 (A 1) cl930 .int := Ar930
              obtain ⟨T931, h931, X931, e931, W931, st931⟩ := stI X924 hx hZ e924 At930 (j := v825) hin930 (g := (mkF m 162 (lt25 x al1 v825 v868 v825) [(.int (v928 + (1 : Int32))), (.int v825), (.ref (A 1))])) rfl rfl (hb hby d24_162)
              obtain ⟨M931, d_M931, hf932⟩ := own_nam hf929
              clear hf929
              have B931 := B922.wr (v := (v928 + (1 : Int32))) 1 (Or.inl (by decide)) g925 W931 rfl
              rw [← d_M931] at B931
              have O931 : Old Z n0 h931 := O922.wr W931 (B922.old 1 (Or.inl (by decide)))
              have N931 := Fr.snoc X931 N922 (B922.old 1 (Or.inl (by decide)))
              obtain ⟨T933, X933, e933, st933⟩ := getF X931 hx hZ hown (host := "") (Or.inl (hw _ (tk 21 rfl))) Via.refl e931 (B931.fld 1 rfl) (g := (mkF m 164 (lt25 x al1 v825 v868 v825) [(.ref x)])) rfl rfl (hb hby d24_164)
              obtain ⟨cl934, Ar934, hin934, hat934⟩ := B931.getS g876
              obtain ⟨cl935, Ar935, hin935⟩ := B931.at (14 + ix v868) (B931.isS g876) (own_gS g879)
              have At935 := own_tyA Ar935
              obtain ⟨T936, h936, X936, e936, W936, st936⟩ := stB X933 hx hZ e933 At935 (j := v825) hin935 (g := (mkF m 172 (lt25 x al1 v825 v868 v825) [(.int (0 : Int32)), (.int v825), (.ref (A (14 + ix v868)))])) rfl rfl (hb hby d24_172)
              obtain ⟨M936, d_M936, hf937⟩ := own_nam hf932
              clear hf932
              have B936 := B931.wr (v := (0 : Int32)) (14 + ix v868) (B931.isS g876) (own_gS g879) W936 (own_fitS (by decide))
              rw [← d_M936] at B936
              have O936 : Old Z n0 h936 := O931.wr W936 (B931.old (14 + ix v868) (B931.isS g876))
              have N936 := Fr.snoc X936 N931 (B931.old (14 + ix v868) (B931.isS g876))
              obtain ⟨T938, X938, e938, st938⟩ := getF X936 hx hZ hown (host := "") (Or.inl (hw _ (tk 21 rfl))) Via.refl e936 (B936.fld 1 rfl) (g := (mkF m 174 (lt25 x al1 v825 v868 v825) [(.ref x)])) rfl rfl (hb hby d24_174)
              obtain ⟨cl939, Ar939, hin939, hat939⟩ := B936.getS g879
              obtain ⟨cl940, Ar940, hin940⟩ := B936.at (14 + ix v825) (B936.isS g879) (own_gS g876)
              have At940 := own_tyA Ar940
              obtain ⟨T941, h941, X941, e941, W941, st941⟩ := stB X938 hx hZ e938 At940 (j := v868) hin940 (g := (mkF m 182 (lt25 x al1 v825 v868 v825) [(.int (0 : Int32)), (.int v868), (.ref (A (14 + ix v825)))])) rfl rfl (hb hby d24_182)
              obtain ⟨M941, d_M941, hf942⟩ := own_nam hf937
              clear hf937
              have B941 := B936.wr (v := (0 : Int32)) (14 + ix v825) (B936.isS g879) (own_gS g876) W941 (own_fitS (by decide))
              rw [← d_M941] at B941
              have O941 : Old Z n0 h941 := O936.wr W941 (B936.old (14 + ix v825) (B936.isS g879))
              have N941 := Fr.snoc X941 N936 (B936.old (14 + ix v825) (B936.isS g879))
              have pre943 : Cm p e below E0 (T941.setTop (mkF m 0 (lt25 x al1 v825 v868 v825) [])) := fun t kt => by
                refine pre884 t ?_
                show Sp p e below T875 (mkF m 115 (lt25 x al1 v825 v868 v825) [(.int (1 : Int32)), (.int v882)]) _
                refine XS.icmpYes X875.here hx rfl (pc0 := 115) (pc' := 142) rfl (hb hby d24_115) rfl (feq hc885).2 (by decide) (by decide) ?_
                show Sp p e below T875 (mkF m 142 (lt25 x al1 v825 v868 v825) []) _
                refine XS.aloadN X875.here hx rfl (hb hby d24_142) rfl rfl ?_
                show Sp p e below T875 (mkF m 143 (lt25 x al1 v825 v868 v825) [(.ref x)]) _
                refine st915 _ ?_
                show Sp p e below T915 (mkF m 146 (lt25 x al1 v825 v868 v825) [(.ref (A 1))]) _
                refine XS.iloadN X915.here hx rfl (hb hby d24_146) rfl ?_
                show Sp p e below T915 (mkF m 147 (lt25 x al1 v825 v868 v825) [(.int v868), (.ref (A 1))]) _
                refine XT.dup2 X915.here hx rfl (hb hby d24_147) rfl rfl rfl ?_
                show Sp p e below T915 (mkF m 148 (lt25 x al1 v825 v868 v825) [(.int v868), (.ref (A 1)), (.int v868), (.ref (A 1))]) _
                refine X915.iaload hx (j := v868) (v := (.int v919)) (by rw [e915]; exact Ar918.1) (State.isArrayOf_alike hZ.alike At918.2.1) At918.2.2 hin918 hat918 (g := (mkF m 148 (lt25 x al1 v825 v868 v825) [(.int v868), (.ref (A 1)), (.int v868), (.ref (A 1))])) rfl rfl (hb hby d24_148) _ ?_
                show Sp p e below T915 (mkF m 149 (lt25 x al1 v825 v868 v825) [(.int v919), (.int v868), (.ref (A 1))]) _
                refine XS.iconst X915.here hx rfl (hb hby d24_149) ?_
                refine XS.iadd X915.here hx rfl (hb hby d24_150) rfl ?_
                show Sp p e below T915 (mkF m 151 (lt25 x al1 v825 v868 v825) [(.int (v919 + (1 : Int32))), (.int v868), (.ref (A 1))]) _
                refine st922 _ ?_
                show Sp p e below T922 (mkF m 152 (lt25 x al1 v825 v868 v825) []) _
                refine XS.aloadN X922.here hx rfl (hb hby d24_152) rfl rfl ?_
                show Sp p e below T922 (mkF m 153 (lt25 x al1 v825 v868 v825) [(.ref x)]) _
                refine st924 _ ?_
                show Sp p e below T924 (mkF m 156 (lt25 x al1 v825 v868 v825) [(.ref (A 1))]) _
                refine XS.iload X924.here hx rfl (hb hby d24_156) rfl ?_
                show Sp p e below T924 (mkF m 158 (lt25 x al1 v825 v868 v825) [(.int v825), (.ref (A 1))]) _
                refine XT.dup2 X924.here hx rfl (hb hby d24_158) rfl rfl rfl ?_
                show Sp p e below T924 (mkF m 159 (lt25 x al1 v825 v868 v825) [(.int v825), (.ref (A 1)), (.int v825), (.ref (A 1))]) _
                refine X924.iaload hx (j := v825) (v := (.int v928)) (by rw [e924]; exact Ar927.1) (State.isArrayOf_alike hZ.alike At927.2.1) At927.2.2 hin927 hat927 (g := (mkF m 159 (lt25 x al1 v825 v868 v825) [(.int v825), (.ref (A 1)), (.int v825), (.ref (A 1))])) rfl rfl (hb hby d24_159) _ ?_
                show Sp p e below T924 (mkF m 160 (lt25 x al1 v825 v868 v825) [(.int v928), (.int v825), (.ref (A 1))]) _
                refine XS.iconst X924.here hx rfl (hb hby d24_160) ?_
                refine XS.iadd X924.here hx rfl (hb hby d24_161) rfl ?_
                show Sp p e below T924 (mkF m 162 (lt25 x al1 v825 v868 v825) [(.int (v928 + (1 : Int32))), (.int v825), (.ref (A 1))]) _
                refine st931 _ ?_
                show Sp p e below T931 (mkF m 163 (lt25 x al1 v825 v868 v825) []) _
                refine XS.aloadN X931.here hx rfl (hb hby d24_163) rfl rfl ?_
                show Sp p e below T931 (mkF m 164 (lt25 x al1 v825 v868 v825) [(.ref x)]) _
                refine st933 _ ?_
                show Sp p e below T933 (mkF m 167 (lt25 x al1 v825 v868 v825) [(.ref S0)]) _
                refine XS.iloadN X933.here hx rfl (hb hby d24_167) rfl ?_
                show Sp p e below T933 (mkF m 168 (lt25 x al1 v825 v868 v825) [(.int v868), (.ref S0)]) _
                refine X933.aaload hx (j := v868) (v := .ref (A (14 + ix v868))) (by rw [e933]; exact Ar934.1) (State.isArrayOf_alike hZ.alike Ar934.2.1) rfl Ar934.2.2 hin934 hat934 (g := (mkF m 168 (lt25 x al1 v825 v868 v825) [(.int v868), (.ref S0)])) rfl rfl (hb hby d24_168) _ ?_
                show Sp p e below T933 (mkF m 169 (lt25 x al1 v825 v868 v825) [(.ref (A (14 + ix v868)))]) _
                refine XS.iload X933.here hx rfl (hb hby d24_169) rfl ?_
                refine XS.iconst X933.here hx rfl (hb hby d24_171) ?_
                show Sp p e below T933 (mkF m 172 (lt25 x al1 v825 v868 v825) [(.int (0 : Int32)), (.int v825), (.ref (A (14 + ix v868)))]) _
                refine st936 _ ?_
                show Sp p e below T936 (mkF m 173 (lt25 x al1 v825 v868 v825) []) _
                refine XS.aloadN X936.here hx rfl (hb hby d24_173) rfl rfl ?_
                show Sp p e below T936 (mkF m 174 (lt25 x al1 v825 v868 v825) [(.ref x)]) _
                refine st938 _ ?_
                show Sp p e below T938 (mkF m 177 (lt25 x al1 v825 v868 v825) [(.ref S0)]) _
                refine XS.iload X938.here hx rfl (hb hby d24_177) rfl ?_
                show Sp p e below T938 (mkF m 179 (lt25 x al1 v825 v868 v825) [(.int v825), (.ref S0)]) _
                refine X938.aaload hx (j := v825) (v := .ref (A (14 + ix v825))) (by rw [e938]; exact Ar939.1) (State.isArrayOf_alike hZ.alike Ar939.2.1) rfl Ar939.2.2 hin939 hat939 (g := (mkF m 179 (lt25 x al1 v825 v868 v825) [(.int v825), (.ref S0)])) rfl rfl (hb hby d24_179) _ ?_
                show Sp p e below T938 (mkF m 180 (lt25 x al1 v825 v868 v825) [(.ref (A (14 + ix v825)))]) _
                refine XS.iloadN X938.here hx rfl (hb hby d24_180) rfl ?_
                refine XS.iconst X938.here hx rfl (hb hby d24_181) ?_
                show Sp p e below T938 (mkF m 182 (lt25 x al1 v825 v868 v825) [(.int (0 : Int32)), (.int v868), (.ref (A (14 + ix v825)))]) _
                refine st941 _ ?_
                show Sp p e below T941 (mkF m 183 (lt25 x al1 v825 v868 v825) []) _
                refine XS.goto X941.here hx rfl (pc0 := 183) (pc' := 0) rfl (hb hby d24_183) (by decide) (by decide) ?_
                show Sp p e below T941 (mkF m 0 (lt25 x al1 v825 v868 v825) []) _
                exact kt
              exact ih M941 al1 (.val (.int v825)) (.val (.int v868)) (.val (.int v825)) (Or.inr ⟨_, rfl, rfl⟩) (Or.inr ⟨_, rfl, rfl⟩) (Or.inr ⟨_, rfl, rfl⟩) T941 _ _ X941 e941 O941 N941 B941 hf942 pre943
        · rw [own_ltF hc819] at hf816
          obtain ⟨rfl, rfl⟩ := own_ret hf816
          obtain ⟨fs, hr, hrun, hended, hW, hsame⟩ := X817.leave (v := none) (fun _ => rfl) (BodyLoose.notSynchronized Bd)
          refine hno ⟨_, _, pre818 _ ?_, hrun, hended, _, _, rfl, ?_, ⟨_, rfl⟩, hW, hsame.mono (by decide) (by decide)⟩
          · show Sp p e below T817 (mkF m 5 (lt33 x al1 s2 s3 s4) [(.int al1), (.int v815)]) _
            refine XS.icmpYes X817.here hx rfl (pc0 := 5) (pc' := 186) rfl (hb hby d24_5) rfl (flt hc819).2.2.2 (by decide) (by decide) ?_
            show Sp p e below T817 (mkF m 186 (lt33 x al1 s2 s3 s4) []) _
            exact X817.returnOut hx Bd.returns (hb hby d24_186) hr
          · show Q24 Z n0 ex x A K S0 nc _ _ _ T817.heap _
            rw [e817]
            exact ⟨rfl, N1, O1, B1⟩
  exact (lp 200) M p1 (.unset) (.unset) (.unset) (Or.inl rfl) (Or.inl rfl) (Or.inl rfl) s₁ _ _ X0 e0 O0 N0 B0 hf pre0
theorem pn_9 : plainName "com/example/onetree/onetree/EdgeStates" = true := by first | (simp [plainName, overriddenIn]; done) | decide +kernel
def f9 (nc : Nat) (M : MM) (p1 : Int32) : Option (Int32 × MM) := gd (inr p1 (lnR nc 7)) (nai (ld M 7 (ix p1)) fun v959 => some (v959, M))
theorem ef_9 (m : MethodId) (x : Addr) (A : Nat → Addr) (p1 : Int32) : entryFrame m #[(.ref x), (.int p1)] 2 = mkF m 0 #[.val (.ref x), .val (.int p1)] [] := by first | (simp [entryFrame, mkF, argsToLocals, Value.category]; done) | rfl
def Q9 (Z : State) (n0 : Nat) (ex : Bool) (x : Addr) (A : Nat → Addr) (K : Nat → ClassId) (S0 : Addr) (nc : Nat) (rv : Int32) (M' : MM) (v : Option Value) (h : Heap) (L : List Loc) : Prop := v = some (.int rv) ∧ Fr n0 L ∧ Old Z n0 h ∧ EB Z n0 ex h x A K S0 nc M'
set_option maxRecDepth 65536 in
set_option maxHeartbeats 40000000 in
theorem rm9 (l : Launch) (Z : State) (a0 : Array Value) (hw : ∀ d ∈ tables_1, d.before a0 Z = true) (ws : List Jvm.Cond) (hSl : SlotsOK Z) (ex : Bool) (x : Addr) (A : Nat → Addr) (K : Nat → ClassId) (S0 : Addr) (nc : Nat) (M : MM) (p1 : Int32) (rv : Int32) (M' : MM) (h0 : Heap) (n0 : Nat) (O0 : Old Z n0 h0) (B0 : EB Z n0 ex h0 x A K S0 nc M) (hf : f9 nc M p1 = some (rv, M')) :
    MetFree l Y53 (head1 (Jvm.Cond.code Y53 prog_7_method_15_code 2 (some .int) :: ws) ({ frames := 0, cells := 0, slots := 0, locals := 0 } : Room)) (fun a U => a = #[(.ref x), (.int p1)] ∧ Z.Warmed39 U.vm ∧ U.heap = h0) (fun _ _ _ _ _ => True) (fun _ U o U' => ∃ v L, o = .returned v ∧ Q9 Z n0 ex x A K S0 nc rv M' v U'.heap L ∧ FrameEnd U o U' L ({ frames := 0, cells := 0, slots := 0, locals := 0 } : Room).cells ({ frames := 0, cells := 0, slots := 0, locals := 0 } : Room).slots) := by
  refine MetFree.of_bodySF (plainFor_of_name pn_9) hisR ?_
  intro p e s m args below meth c s₁ Bd hml0 hP hK
  obtain ⟨rfl, hZ, hh⟩ := hP
  have hx := Bd.exec
  have hby := Bd.bytes
  have hml : c.maxLocals = 2 := hml0
  have hown : s.vm.findClass "com/example/onetree/onetree/EdgeStates" = some m.cls := findClass_of_methodNamed Bd.named
  have X0 : Stand p l e ({ frames := 0, cells := 0, slots := 0, locals := 0 } : Room) s m #[(.ref x), (.int p1)] below meth c s₁ [] 0 0 := Stand.of_body Bd
  have e0 : s₁.heap = h0 := by rw [← hh, Bd.state]; rfl
  have N0 := Fr.nil n0
  have pre0 : ∀ t, Steps p.tables e below (s₁.setTop (mkF m 0 #[.val (.ref x), .val (.int p1)] [])) t → Steps p.tables e below (s₁.setTop (entryFrame m #[(.ref x), (.int p1)] 2)) t := fun t k => castTop (ef_9 m x A p1) k
  generalize hE0 : s₁.setTop (entryFrame m #[(.ref x), (.int p1)] 2) = E0 at pre0 ⊢
  apply Classical.byContradiction
  intro hno
  unfold f9 at hf
  obtain ⟨T955, X955, e955, st955⟩ := getF X0 hx hZ hown (host := "") (Or.inl (hw _ (tk 48 rfl))) Via.refl e0 (B0.fld 9 rfl) (g := (mkF m 1 (lt2 x p1) [(.ref x)])) rfl rfl (hb hby d9_1)
  obtain ⟨g956, hf957⟩ := own_gd hf
  clear hf
  obtain ⟨v959, d_v959, hf960⟩ := own_nai hf957
  clear hf957
  obtain ⟨cl958, Ar958, hin958, hat958⟩ := B0.get 7 (Or.inl (by decide)) g956 d_v959
  have At958 : Arr Z h0 (A 7) cl958 .int := Ar958
  obtain ⟨rfl, rfl⟩ := own_ret hf960
  obtain ⟨fs, hr, hrun, hended, hW, hsame⟩ := X955.leave (v := some (.int v959)) (fun h => by rw [Bd.returns] at h; cases h) (BodyLoose.notSynchronized Bd)
  refine hno ⟨_, _, pre0 _ ?_, hrun, hended, _, _, rfl, ?_, ⟨_, rfl⟩, hW, hsame.mono (by decide) (by decide)⟩
  · show Sp p e below s₁ (mkF m 0 (lt2 x p1) []) _
    refine XS.aloadN X0.here hx rfl (hb hby d9_0) rfl rfl ?_
    show Sp p e below s₁ (mkF m 1 (lt2 x p1) [(.ref x)]) _
    refine st955 _ ?_
    show Sp p e below T955 (mkF m 4 (lt2 x p1) [(.ref (A 7))]) _
    refine XS.iloadN X955.here hx rfl (hb hby d9_4) rfl ?_
    show Sp p e below T955 (mkF m 5 (lt2 x p1) [(.int p1), (.ref (A 7))]) _
    refine X955.iaload hx (j := p1) (v := (.int v959)) (by rw [e955]; exact Ar958.1) (State.isArrayOf_alike hZ.alike At958.2.1) At958.2.2 hin958 hat958 (g := (mkF m 5 (lt2 x p1) [(.int p1), (.ref (A 7))])) rfl rfl (hb hby d9_5) _ ?_
    show Sp p e below T955 (mkF m 6 (lt2 x p1) [(.int v959)]) _
    exact retI X955 hx Bd.returns (hb hby d9_6) hr
  · show Q9 Z n0 ex x A K S0 nc _ _ _ T955.heap _
    rw [e955]
    exact ⟨rfl, N0, O0, B0⟩
theorem pn_10 : plainName "com/example/onetree/onetree/EdgeStates" = true := by first | (simp [plainName, overriddenIn]; done) | decide +kernel
def f10 (nc : Nat) (M : MM) (p1 : Int32) : Option (Int32 × MM) := gd (inr (p1 + (1 : Int32)) (lnR nc 7)) (nai (ld M 7 (ix (p1 + (1 : Int32)))) fun v969 => some (v969, M))
theorem ef_10 (m : MethodId) (x : Addr) (A : Nat → Addr) (p1 : Int32) : entryFrame m #[(.ref x), (.int p1)] 2 = mkF m 0 #[.val (.ref x), .val (.int p1)] [] := by first | (simp [entryFrame, mkF, argsToLocals, Value.category]; done) | rfl
def Q10 (Z : State) (n0 : Nat) (ex : Bool) (x : Addr) (A : Nat → Addr) (K : Nat → ClassId) (S0 : Addr) (nc : Nat) (rv : Int32) (M' : MM) (v : Option Value) (h : Heap) (L : List Loc) : Prop := v = some (.int rv) ∧ Fr n0 L ∧ Old Z n0 h ∧ EB Z n0 ex h x A K S0 nc M'
set_option maxRecDepth 65536 in
set_option maxHeartbeats 40000000 in
theorem rm10 (l : Launch) (Z : State) (a0 : Array Value) (hw : ∀ d ∈ tables_1, d.before a0 Z = true) (ws : List Jvm.Cond) (hSl : SlotsOK Z) (ex : Bool) (x : Addr) (A : Nat → Addr) (K : Nat → ClassId) (S0 : Addr) (nc : Nat) (M : MM) (p1 : Int32) (rv : Int32) (M' : MM) (h0 : Heap) (n0 : Nat) (O0 : Old Z n0 h0) (B0 : EB Z n0 ex h0 x A K S0 nc M) (hf : f10 nc M p1 = some (rv, M')) :
    MetFree l Y54 (head1 (Jvm.Cond.code Y54 prog_7_method_16_code 2 (some .int) :: ws) ({ frames := 0, cells := 0, slots := 0, locals := 0 } : Room)) (fun a U => a = #[(.ref x), (.int p1)] ∧ Z.Warmed39 U.vm ∧ U.heap = h0) (fun _ _ _ _ _ => True) (fun _ U o U' => ∃ v L, o = .returned v ∧ Q10 Z n0 ex x A K S0 nc rv M' v U'.heap L ∧ FrameEnd U o U' L ({ frames := 0, cells := 0, slots := 0, locals := 0 } : Room).cells ({ frames := 0, cells := 0, slots := 0, locals := 0 } : Room).slots) := by
  refine MetFree.of_bodySF (plainFor_of_name pn_10) hisR ?_
  intro p e s m args below meth c s₁ Bd hml0 hP hK
  obtain ⟨rfl, hZ, hh⟩ := hP
  have hx := Bd.exec
  have hby := Bd.bytes
  have hml : c.maxLocals = 2 := hml0
  have hown : s.vm.findClass "com/example/onetree/onetree/EdgeStates" = some m.cls := findClass_of_methodNamed Bd.named
  have X0 : Stand p l e ({ frames := 0, cells := 0, slots := 0, locals := 0 } : Room) s m #[(.ref x), (.int p1)] below meth c s₁ [] 0 0 := Stand.of_body Bd
  have e0 : s₁.heap = h0 := by rw [← hh, Bd.state]; rfl
  have N0 := Fr.nil n0
  have pre0 : ∀ t, Steps p.tables e below (s₁.setTop (mkF m 0 #[.val (.ref x), .val (.int p1)] [])) t → Steps p.tables e below (s₁.setTop (entryFrame m #[(.ref x), (.int p1)] 2)) t := fun t k => castTop (ef_10 m x A p1) k
  generalize hE0 : s₁.setTop (entryFrame m #[(.ref x), (.int p1)] 2) = E0 at pre0 ⊢
  apply Classical.byContradiction
  intro hno
  unfold f10 at hf
  obtain ⟨T965, X965, e965, st965⟩ := getF X0 hx hZ hown (host := "") (Or.inl (hw _ (tk 48 rfl))) Via.refl e0 (B0.fld 9 rfl) (g := (mkF m 1 (lt2 x p1) [(.ref x)])) rfl rfl (hb hby d10_1)
  obtain ⟨g966, hf967⟩ := own_gd hf
  clear hf
  obtain ⟨v969, d_v969, hf970⟩ := own_nai hf967
  clear hf967
  obtain ⟨cl968, Ar968, hin968, hat968⟩ := B0.get 7 (Or.inl (by decide)) g966 d_v969
  have At968 : Arr Z h0 (A 7) cl968 .int := Ar968
  obtain ⟨rfl, rfl⟩ := own_ret hf970
  obtain ⟨fs, hr, hrun, hended, hW, hsame⟩ := X965.leave (v := some (.int v969)) (fun h => by rw [Bd.returns] at h; cases h) (BodyLoose.notSynchronized Bd)
  refine hno ⟨_, _, pre0 _ ?_, hrun, hended, _, _, rfl, ?_, ⟨_, rfl⟩, hW, hsame.mono (by decide) (by decide)⟩
  · show Sp p e below s₁ (mkF m 0 (lt2 x p1) []) _
    refine XS.aloadN X0.here hx rfl (hb hby d10_0) rfl rfl ?_
    show Sp p e below s₁ (mkF m 1 (lt2 x p1) [(.ref x)]) _
    refine st965 _ ?_
    show Sp p e below T965 (mkF m 4 (lt2 x p1) [(.ref (A 7))]) _
    refine XS.iloadN X965.here hx rfl (hb hby d10_4) rfl ?_
    refine XS.iconst X965.here hx rfl (hb hby d10_5) ?_
    show Sp p e below T965 (mkF m 6 (lt2 x p1) [(.int (1 : Int32)), (.int p1), (.ref (A 7))]) _
    refine XS.iadd X965.here hx rfl (hb hby d10_6) rfl ?_
    show Sp p e below T965 (mkF m 7 (lt2 x p1) [(.int (p1 + (1 : Int32))), (.ref (A 7))]) _
    refine X965.iaload hx (j := (p1 + (1 : Int32))) (v := (.int v969)) (by rw [e965]; exact Ar968.1) (State.isArrayOf_alike hZ.alike At968.2.1) At968.2.2 hin968 hat968 (g := (mkF m 7 (lt2 x p1) [(.int (p1 + (1 : Int32))), (.ref (A 7))])) rfl rfl (hb hby d10_7) _ ?_
    show Sp p e below T965 (mkF m 8 (lt2 x p1) [(.int v969)]) _
    exact retI X965 hx Bd.returns (hb hby d10_8) hr
  · show Q10 Z n0 ex x A K S0 nc _ _ _ T965.heap _
    rw [e965]
    exact ⟨rfl, N0, O0, B0⟩
theorem pn_13 : plainName "com/example/onetree/onetree/EdgeStates" = true := by first | (simp [plainName, overriddenIn]; done) | decide +kernel
def f13 (nc : Nat) (M : MM) (p1 : Int32) (p2 : Int32) : Option (Int32 × MM) := gd (inr p1 nc) (gd (inr p2 nc) (nai (ld M (14 + ix p1) (ix p2)) fun v1000 => some ((nar .byte v1000), M)))
theorem ef_13 (m : MethodId) (x : Addr) (A : Nat → Addr) (p1 : Int32) (p2 : Int32) : entryFrame m #[(.ref x), (.int p1), (.int p2)] 3 = mkF m 0 #[.val (.ref x), .val (.int p1), .val (.int p2)] [] := by first | (simp [entryFrame, mkF, argsToLocals, Value.category]; done) | rfl
def Q13 (Z : State) (n0 : Nat) (ex : Bool) (x : Addr) (A : Nat → Addr) (K : Nat → ClassId) (S0 : Addr) (nc : Nat) (rv : Int32) (M' : MM) (v : Option Value) (h : Heap) (L : List Loc) : Prop := v = some (.int rv) ∧ Fr n0 L ∧ Old Z n0 h ∧ EB Z n0 ex h x A K S0 nc M'
set_option maxRecDepth 65536 in
set_option maxHeartbeats 40000000 in
theorem rm13 (l : Launch) (Z : State) (a0 : Array Value) (hw : ∀ d ∈ tables_1, d.before a0 Z = true) (ws : List Jvm.Cond) (hSl : SlotsOK Z) (ex : Bool) (x : Addr) (A : Nat → Addr) (K : Nat → ClassId) (S0 : Addr) (nc : Nat) (M : MM) (p1 : Int32) (p2 : Int32) (rv : Int32) (M' : MM) (h0 : Heap) (n0 : Nat) (O0 : Old Z n0 h0) (B0 : EB Z n0 ex h0 x A K S0 nc M) (hf : f13 nc M p1 p2 = some (rv, M')) :
    MetFree l Y58 (head1 (Jvm.Cond.code Y58 prog_7_method_4_code 3 (some .byte) :: ws) ({ frames := 0, cells := 0, slots := 0, locals := 0 } : Room)) (fun a U => a = #[(.ref x), (.int p1), (.int p2)] ∧ Z.Warmed39 U.vm ∧ U.heap = h0) (fun _ _ _ _ _ => True) (fun _ U o U' => ∃ v L, o = .returned v ∧ Q13 Z n0 ex x A K S0 nc rv M' v U'.heap L ∧ FrameEnd U o U' L ({ frames := 0, cells := 0, slots := 0, locals := 0 } : Room).cells ({ frames := 0, cells := 0, slots := 0, locals := 0 } : Room).slots) := by
  refine MetFree.of_bodySF (plainFor_of_name pn_13) hisR ?_
  intro p e s m args below meth c s₁ Bd hml0 hP hK
  obtain ⟨rfl, hZ, hh⟩ := hP
  have hx := Bd.exec
  have hby := Bd.bytes
  have hml : c.maxLocals = 3 := hml0
  have hown : s.vm.findClass "com/example/onetree/onetree/EdgeStates" = some m.cls := findClass_of_methodNamed Bd.named
  have X0 : Stand p l e ({ frames := 0, cells := 0, slots := 0, locals := 0 } : Room) s m #[(.ref x), (.int p1), (.int p2)] below meth c s₁ [] 0 0 := Stand.of_body Bd
  have e0 : s₁.heap = h0 := by rw [← hh, Bd.state]; rfl
  have N0 := Fr.nil n0
  have pre0 : ∀ t, Steps p.tables e below (s₁.setTop (mkF m 0 #[.val (.ref x), .val (.int p1), .val (.int p2)] [])) t → Steps p.tables e below (s₁.setTop (entryFrame m #[(.ref x), (.int p1), (.int p2)] 3)) t := fun t k => castTop (ef_13 m x A p1 p2) k
  generalize hE0 : s₁.setTop (entryFrame m #[(.ref x), (.int p1), (.int p2)] 3) = E0 at pre0 ⊢
  apply Classical.byContradiction
  intro hno
  unfold f13 at hf
  obtain ⟨T993, X993, e993, st993⟩ := getF X0 hx hZ hown (host := "") (Or.inl (hw _ (tk 21 rfl))) Via.refl e0 (B0.fld 1 rfl) (g := (mkF m 1 (lt14 x p1 p2) [(.ref x)])) rfl rfl (hb hby d13_1)
  obtain ⟨g994, hf995⟩ := own_gd hf
  clear hf
  obtain ⟨cl996, Ar996, hin996, hat996⟩ := B0.getS g994
  obtain ⟨g997, hf998⟩ := own_gd hf995
  clear hf995
  obtain ⟨v1000, d_v1000, hf1001⟩ := own_nai hf998
  clear hf998
  obtain ⟨cl999, Ar999, hin999, hat999⟩ := B0.get (14 + ix p1) (B0.isS g994) (own_gS g997) d_v1000
  have At999 := own_tyA Ar999
  obtain ⟨rfl, rfl⟩ := own_ret hf1001
  obtain ⟨fs, hr, hrun, hended, hW, hsame⟩ := X993.leave (v := some (.int (nar .byte v1000))) (fun h => by rw [Bd.returns] at h; cases h) (BodyLoose.notSynchronized Bd)
  refine hno ⟨_, _, pre0 _ ?_, hrun, hended, _, _, rfl, ?_, ⟨_, rfl⟩, hW, hsame.mono (by decide) (by decide)⟩
  · show Sp p e below s₁ (mkF m 0 (lt14 x p1 p2) []) _
    refine XS.aloadN X0.here hx rfl (hb hby d13_0) rfl rfl ?_
    show Sp p e below s₁ (mkF m 1 (lt14 x p1 p2) [(.ref x)]) _
    refine st993 _ ?_
    show Sp p e below T993 (mkF m 4 (lt14 x p1 p2) [(.ref S0)]) _
    refine XS.iloadN X993.here hx rfl (hb hby d13_4) rfl ?_
    show Sp p e below T993 (mkF m 5 (lt14 x p1 p2) [(.int p1), (.ref S0)]) _
    refine X993.aaload hx (j := p1) (v := .ref (A (14 + ix p1))) (by rw [e993]; exact Ar996.1) (State.isArrayOf_alike hZ.alike Ar996.2.1) rfl Ar996.2.2 hin996 hat996 (g := (mkF m 5 (lt14 x p1 p2) [(.int p1), (.ref S0)])) rfl rfl (hb hby d13_5) _ ?_
    show Sp p e below T993 (mkF m 6 (lt14 x p1 p2) [(.ref (A (14 + ix p1)))]) _
    refine XS.iloadN X993.here hx rfl (hb hby d13_6) rfl ?_
    show Sp p e below T993 (mkF m 7 (lt14 x p1 p2) [(.int p2), (.ref (A (14 + ix p1)))]) _
    refine X993.baloadBytes hx (j := p2) (v := (.int v1000)) (by rw [e993]; exact Ar999.1) (State.isArrayOf_alike hZ.alike At999.2.1) At999.2.2 hin999 hat999 (g := (mkF m 7 (lt14 x p1 p2) [(.int p2), (.ref (A (14 + ix p1)))])) rfl rfl (hb hby d13_7) _ ?_
    show Sp p e below T993 (mkF m 8 (lt14 x p1 p2) [(.int v1000)]) _
    exact retN X993 hx (t := .byte) Bd.returns (by simp) (hb hby d13_8) hr
  · show Q13 Z n0 ex x A K S0 nc _ _ _ T993.heap _
    rw [e993]
    exact ⟨rfl, N0, O0, B0⟩
theorem pn_12 : plainName "com/example/onetree/onetree/EdgeStatesListNeighboursPinLaw" = true := by first | (simp [plainName, overriddenIn]; done) | decide +kernel
def f12 (nc : Nat) (M : MM) (p1 : Int32) (p3 : Int32) (p4 : Int32) : Option (Int32 × MM) := cnd (eqB p4 p3) (some (p1, M)) (bnd (f13 nc M p3 p4) fun v1002 M1002 => cnd (eqB v1002 (2 : Int32)) (some (p1, M1002)) (gd (inr p1 (lnR nc 13)) (nam (sto M1002 13 (ix p1) p4) fun M1009 => some ((p1 + (1 : Int32)), M1009))))
theorem ef_12 (m : MethodId) (x : Addr) (A : Nat → Addr) (p1 : Int32) (p3 : Int32) (p4 : Int32) : entryFrame m #[(.ref (A 13)), (.int p1), (.ref x), (.int p3), (.int p4)] 5 = mkF m 0 #[.val (.ref (A 13)), .val (.int p1), .val (.ref x), .val (.int p3), .val (.int p4)] [] := by first | (simp [entryFrame, mkF, argsToLocals, Value.category]; done) | rfl
def Q12 (Z : State) (n0 : Nat) (ex : Bool) (x : Addr) (A : Nat → Addr) (K : Nat → ClassId) (S0 : Addr) (nc : Nat) (rv : Int32) (M' : MM) (v : Option Value) (h : Heap) (L : List Loc) : Prop := v = some (.int rv) ∧ Fr n0 L ∧ Old Z n0 h ∧ EB Z n0 ex h x A K S0 nc M'
set_option maxRecDepth 65536 in
set_option maxHeartbeats 40000000 in
theorem rm12 (l : Launch) (Z : State) (a0 : Array Value) (hw : ∀ d ∈ tables_1, d.before a0 Z = true) (ws : List Jvm.Cond) (hSl : SlotsOK Z) (x : Addr) (A : Nat → Addr) (K : Nat → ClassId) (S0 : Addr) (nc : Nat) (M : MM) (p1 : Int32) (p3 : Int32) (p4 : Int32) (rv : Int32) (M' : MM) (h0 : Heap) (n0 : Nat) (O0 : Old Z n0 h0) (B0 : EB Z n0 true h0 x A K S0 nc M) (hf : f12 nc M p1 p3 p4 = some (rv, M')) :
    MetFree l Y59 (head1 (Jvm.Cond.code Y59 method_4_code 5 (some .int) :: ws) ({ frames := 1, cells := 0, slots := 0, locals := 14 } : Room)) (fun a U => a = #[(.ref (A 13)), (.int p1), (.ref x), (.int p3), (.int p4)] ∧ Z.Warmed39 U.vm ∧ U.heap = h0) (fun _ _ _ _ _ => True) (fun _ U o U' => ∃ v L, o = .returned v ∧ Q12 Z n0 true x A K S0 nc rv M' v U'.heap L ∧ FrameEnd U o U' L ({ frames := 1, cells := 0, slots := 0, locals := 14 } : Room).cells ({ frames := 1, cells := 0, slots := 0, locals := 14 } : Room).slots) := by
  refine MetFree.of_bodySF (plainFor_of_name pn_12) hisR ?_
  intro p e s m args below meth c s₁ Bd hml0 hP hK
  obtain ⟨rfl, hZ, hh⟩ := hP
  have hx := Bd.exec
  have hby := Bd.bytes
  have hml : c.maxLocals = 5 := hml0
  have hown : s.vm.findClass "com/example/onetree/onetree/EdgeStatesListNeighboursPinLaw" = some m.cls := findClass_of_methodNamed Bd.named
  have X0 : Stand p l e ({ frames := 1, cells := 0, slots := 0, locals := 14 } : Room) s m #[(.ref (A 13)), (.int p1), (.ref x), (.int p3), (.int p4)] below meth c s₁ [] 0 0 := Stand.of_body Bd
  have e0 : s₁.heap = h0 := by rw [← hh, Bd.state]; rfl
  have N0 := Fr.nil n0
  have pre0 : ∀ t, Steps p.tables e below (s₁.setTop (mkF m 0 #[.val (.ref (A 13)), .val (.int p1), .val (.ref x), .val (.int p3), .val (.int p4)] [])) t → Steps p.tables e below (s₁.setTop (entryFrame m #[(.ref (A 13)), (.int p1), (.ref x), (.int p3), (.int p4)] 5)) t := fun t k => castTop (ef_12 m x A p1 p3 p4) k
  generalize hE0 : s₁.setTop (entryFrame m #[(.ref (A 13)), (.int p1), (.ref x), (.int p3), (.int p4)] 5) = E0 at pre0 ⊢
  apply Classical.byContradiction
  intro hno
  unfold f12 at hf
  have pre991 : Cm p e below E0 (s₁.setTop (mkF m 3 (lt38 (A 13) p1 x p3 p4) [(.int p3), (.int p4)])) := fun t kt => by
    refine pre0 t ?_
    show Sp p e below s₁ (mkF m 0 (lt38 (A 13) p1 x p3 p4) []) _
    refine XS.iload X0.here hx rfl (hb hby d12_0) rfl ?_
    refine XS.iloadN X0.here hx rfl (hb hby d12_2) rfl ?_
    show Sp p e below s₁ (mkF m 3 (lt38 (A 13) p1 x p3 p4) [(.int p3), (.int p4)]) _
    exact kt
  by_cases hc992 : p4 = p3
  · rw [own_eqT hc992] at hf
    obtain ⟨rfl, rfl⟩ := own_ret hf
    obtain ⟨fs, hr, hrun, hended, hW, hsame⟩ := X0.leave (v := some (.int p1)) (fun h => by rw [Bd.returns] at h; cases h) (BodyLoose.notSynchronized Bd)
    refine hno ⟨_, _, pre991 _ ?_, hrun, hended, _, _, rfl, ?_, ⟨_, rfl⟩, hW, hsame.mono (by decide) (by decide)⟩
    · show Sp p e below s₁ (mkF m 3 (lt38 (A 13) p1 x p3 p4) [(.int p3), (.int p4)]) _
      refine XS.icmpYes X0.here hx rfl (pc0 := 3) (pc' := 26) rfl (hb hby d12_3) rfl (teq hc992).1 (by decide) (by decide) ?_
      show Sp p e below s₁ (mkF m 26 (lt38 (A 13) p1 x p3 p4) []) _
      refine XS.iloadN X0.here hx rfl (hb hby d12_26) rfl ?_
      show Sp p e below s₁ (mkF m 27 (lt38 (A 13) p1 x p3 p4) [(.int p1)]) _
      exact retI X0 hx Bd.returns (hb hby d12_27) hr
    · show Q12 Z n0 true x A K S0 nc _ _ _ s₁.heap _
      rw [e0]
      exact ⟨rfl, N0, O0, B0⟩
  · rw [own_eqF hc992] at hf
    obtain ⟨v1002, M1002, hc1002, hf1003⟩ := own_bnd hf
    clear hf
    obtain ⟨cq1002, kq1002, q1002a, q1002b, q1002c⟩ := isOf hZ e0 B0.exa
    obtain ⟨_, _, ⟨T1002, L1002, k1002, n1002⟩, -, X1002, ⟨Lc1002, hQ1002, l1002, y1002, z1002⟩, st1002⟩ := X0.virtualBack hx (y := Y58) (z := Y58) hown (mvT hZ (hw _ (tk 87 rfl))) (mvT hZ (hw _ (tk 88 rfl))) (notFace_of_selects (args := #[]) (mvT hZ (hw _ (tk 90 rfl)))) (mvT hZ (hw _ (tk 90 rfl))) (mvT hZ (hw _ (tk 89 rfl))) (by decide) (backOf (W := 0) (rm13 l Z a0 hw [] hSl true x A K S0 nc M p3 p4 v1002 M1002 h0 n0 O0 B0 hc1002) hZ (hw _ (tk 91 rfl)) (hw _ (tk 2 rfl)) (by decide) (by decide)) q1002a q1002c (g := (mkF m 10 (lt38 (A 13) p1 x p3 p4) [(.int p4), (.int p3), (.ref x)])) rfl (by rw [hml]; rfl) (Steps.refl _) (argsL := [(.int p3), (.int p4)]) (rest := []) (lenOf pd_13 rfl) rfl (by show 2 * 0 + _ ≤ _; exact Nat.le_of_eq rfl) (hb hby d12_10) (fun _ _ => ⟨rfl, e0, (by decide : 0 + 0 ≤ _), (by decide : 0 + 0 ≤ _)⟩)
    dsimp only [Pt.U, Pt.locs, Pt.cells, Pt.slots] at X1002 l1002 y1002 z1002 st1002 hQ1002
    rw [l1002, y1002, z1002] at X1002
    obtain ⟨rv1002, N1002q, O1002, B1002⟩ := hQ1002
    subst rv1002
    have N1002 := Fr.app N0 N1002q
    have pre1004 : Cm p e below E0 (T1002.setTop (mkF m 14 (lt38 (A 13) p1 x p3 p4) [(.int (2 : Int32)), (.int v1002)])) := fun t kt => by
      refine pre991 t ?_
      show Sp p e below s₁ (mkF m 3 (lt38 (A 13) p1 x p3 p4) [(.int p3), (.int p4)]) _
      refine XS.icmpNo X0.here hx rfl (hb hby d12_3) rfl (feq hc992).1 ?_
      show Sp p e below s₁ (mkF m 6 (lt38 (A 13) p1 x p3 p4) []) _
      refine XS.aloadN X0.here hx rfl (hb hby d12_6) rfl rfl ?_
      refine XS.iloadN X0.here hx rfl (hb hby d12_7) rfl ?_
      show Sp p e below s₁ (mkF m 8 (lt38 (A 13) p1 x p3 p4) [(.int p3), (.ref x)]) _
      refine XS.iload X0.here hx rfl (hb hby d12_8) rfl ?_
      show Sp p e below s₁ (mkF m 10 (lt38 (A 13) p1 x p3 p4) [(.int p4), (.int p3), (.ref x)]) _
      refine st1002.trans ?_
      show Sp p e below T1002 (mkF m 13 (lt38 (A 13) p1 x p3 p4) [(.int v1002)]) _
      refine XS.iconst X1002.here hx rfl (hb hby d12_13) ?_
      show Sp p e below T1002 (mkF m 14 (lt38 (A 13) p1 x p3 p4) [(.int (2 : Int32)), (.int v1002)]) _
      exact kt
    by_cases hc1005 : v1002 = (2 : Int32)
    · rw [own_eqT hc1005] at hf1003
      obtain ⟨rfl, rfl⟩ := own_ret hf1003
      obtain ⟨fs, hr, hrun, hended, hW, hsame⟩ := X1002.leave (v := some (.int p1)) (fun h => by rw [Bd.returns] at h; cases h) (BodyLoose.notSynchronized Bd)
      refine hno ⟨_, _, pre1004 _ ?_, hrun, hended, _, _, rfl, ?_, ⟨_, rfl⟩, hW, hsame.mono (by decide) (by decide)⟩
      · show Sp p e below T1002 (mkF m 14 (lt38 (A 13) p1 x p3 p4) [(.int (2 : Int32)), (.int v1002)]) _
        refine XS.icmpYes X1002.here hx rfl (pc0 := 14) (pc' := 26) rfl (hb hby d12_14) rfl (teq hc1005).1 (by decide) (by decide) ?_
        show Sp p e below T1002 (mkF m 26 (lt38 (A 13) p1 x p3 p4) []) _
        refine XS.iloadN X1002.here hx rfl (hb hby d12_26) rfl ?_
        show Sp p e below T1002 (mkF m 27 (lt38 (A 13) p1 x p3 p4) [(.int p1)]) _
        exact retI X1002 hx Bd.returns (hb hby d12_27) hr
      · show Q12 Z n0 true x A K S0 nc _ _ _ T1002.heap _
        exact ⟨rfl, N1002, O1002, B1002⟩
    · rw [own_eqF hc1005] at hf1003
      obtain ⟨g1006, hf1007⟩ := own_gd hf1003
      clear hf1003
      obtain ⟨cl1008, Ar1008, hin1008⟩ := B1002.at 13 (Or.inr (Or.inl ⟨rfl, rfl⟩)) g1006
      have At1008 : Arr Z T1002.heap (A 13) cl1008 .int := Ar1008
      obtain ⟨T1009, h1009, X1009, e1009, W1009, st1009⟩ := stI X1002 hx hZ rfl At1008 (j := p1) hin1008 (g := (mkF m 21 (lt38 (A 13) p1 x p3 p4) [(.int p4), (.int p1), (.ref (A 13))])) rfl rfl (hb hby d12_21)
      obtain ⟨M1009, d_M1009, hf1010⟩ := own_nam hf1007
      clear hf1007
      have B1009 := B1002.wr (v := p4) 13 (Or.inr (Or.inl ⟨rfl, rfl⟩)) g1006 W1009 rfl
      rw [← d_M1009] at B1009
      have O1009 : Old Z n0 h1009 := O1002.wr W1009 (B1002.old 13 (Or.inr (Or.inl ⟨rfl, rfl⟩)))
      have N1009 := Fr.snoc X1009 N1002 (B1002.old 13 (Or.inr (Or.inl ⟨rfl, rfl⟩)))
      obtain ⟨rfl, rfl⟩ := own_ret hf1010
      obtain ⟨fs, hr, hrun, hended, hW, hsame⟩ := X1009.leave (v := some (.int (p1 + (1 : Int32)))) (fun h => by rw [Bd.returns] at h; cases h) (BodyLoose.notSynchronized Bd)
      refine hno ⟨_, _, pre1004 _ ?_, hrun, hended, _, _, rfl, ?_, ⟨_, rfl⟩, hW, hsame.mono (by decide) (by decide)⟩
      · show Sp p e below T1002 (mkF m 14 (lt38 (A 13) p1 x p3 p4) [(.int (2 : Int32)), (.int v1002)]) _
        refine XS.icmpNo X1002.here hx rfl (hb hby d12_14) rfl (feq hc1005).1 ?_
        show Sp p e below T1002 (mkF m 17 (lt38 (A 13) p1 x p3 p4) []) _
        refine XS.aloadN X1002.here hx rfl (hb hby d12_17) rfl rfl ?_
        refine XS.iloadN X1002.here hx rfl (hb hby d12_18) rfl ?_
        show Sp p e below T1002 (mkF m 19 (lt38 (A 13) p1 x p3 p4) [(.int p1), (.ref (A 13))]) _
        refine XS.iload X1002.here hx rfl (hb hby d12_19) rfl ?_
        show Sp p e below T1002 (mkF m 21 (lt38 (A 13) p1 x p3 p4) [(.int p4), (.int p1), (.ref (A 13))]) _
        refine st1009 _ ?_
        show Sp p e below T1009 (mkF m 22 (lt38 (A 13) p1 x p3 p4) []) _
        refine XS.iloadN X1009.here hx rfl (hb hby d12_22) rfl ?_
        refine XS.iconst X1009.here hx rfl (hb hby d12_23) ?_
        show Sp p e below T1009 (mkF m 24 (lt38 (A 13) p1 x p3 p4) [(.int (1 : Int32)), (.int p1)]) _
        refine XS.iadd X1009.here hx rfl (hb hby d12_24) rfl ?_
        show Sp p e below T1009 (mkF m 25 (lt38 (A 13) p1 x p3 p4) [(.int (p1 + (1 : Int32)))]) _
        exact retI X1009 hx Bd.returns (hb hby d12_25) hr
      · show Q12 Z n0 true x A K S0 nc _ _ _ T1009.heap _
        rw [e1009]
        exact ⟨rfl, N1009, O1009, B1009⟩
theorem pn_14 : plainName "com/example/onetree/onetree/EdgeStates" = true := by first | (simp [plainName, overriddenIn]; done) | decide +kernel
def f14 (nc : Nat) (M : MM) (p1 : Int32) : Option (Int32 × MM) := gd (inr p1 (lnR nc 8)) (nai (ld M 8 (ix p1)) fun v1035 => some (v1035, M))
theorem ef_14 (m : MethodId) (x : Addr) (A : Nat → Addr) (p1 : Int32) : entryFrame m #[(.ref x), (.int p1)] 2 = mkF m 0 #[.val (.ref x), .val (.int p1)] [] := by first | (simp [entryFrame, mkF, argsToLocals, Value.category]; done) | rfl
def Q14 (Z : State) (n0 : Nat) (ex : Bool) (x : Addr) (A : Nat → Addr) (K : Nat → ClassId) (S0 : Addr) (nc : Nat) (rv : Int32) (M' : MM) (v : Option Value) (h : Heap) (L : List Loc) : Prop := v = some (.int rv) ∧ Fr n0 L ∧ Old Z n0 h ∧ EB Z n0 ex h x A K S0 nc M'
set_option maxRecDepth 65536 in
set_option maxHeartbeats 40000000 in
theorem rm14 (l : Launch) (Z : State) (a0 : Array Value) (hw : ∀ d ∈ tables_1, d.before a0 Z = true) (ws : List Jvm.Cond) (hSl : SlotsOK Z) (ex : Bool) (x : Addr) (A : Nat → Addr) (K : Nat → ClassId) (S0 : Addr) (nc : Nat) (M : MM) (p1 : Int32) (rv : Int32) (M' : MM) (h0 : Heap) (n0 : Nat) (O0 : Old Z n0 h0) (B0 : EB Z n0 ex h0 x A K S0 nc M) (hf : f14 nc M p1 = some (rv, M')) :
    MetFree l Y60 (head1 (Jvm.Cond.code Y60 prog_7_method_17_code 2 (some .int) :: ws) ({ frames := 0, cells := 0, slots := 0, locals := 0 } : Room)) (fun a U => a = #[(.ref x), (.int p1)] ∧ Z.Warmed39 U.vm ∧ U.heap = h0) (fun _ _ _ _ _ => True) (fun _ U o U' => ∃ v L, o = .returned v ∧ Q14 Z n0 ex x A K S0 nc rv M' v U'.heap L ∧ FrameEnd U o U' L ({ frames := 0, cells := 0, slots := 0, locals := 0 } : Room).cells ({ frames := 0, cells := 0, slots := 0, locals := 0 } : Room).slots) := by
  refine MetFree.of_bodySF (plainFor_of_name pn_14) hisR ?_
  intro p e s m args below meth c s₁ Bd hml0 hP hK
  obtain ⟨rfl, hZ, hh⟩ := hP
  have hx := Bd.exec
  have hby := Bd.bytes
  have hml : c.maxLocals = 2 := hml0
  have hown : s.vm.findClass "com/example/onetree/onetree/EdgeStates" = some m.cls := findClass_of_methodNamed Bd.named
  have X0 : Stand p l e ({ frames := 0, cells := 0, slots := 0, locals := 0 } : Room) s m #[(.ref x), (.int p1)] below meth c s₁ [] 0 0 := Stand.of_body Bd
  have e0 : s₁.heap = h0 := by rw [← hh, Bd.state]; rfl
  have N0 := Fr.nil n0
  have pre0 : ∀ t, Steps p.tables e below (s₁.setTop (mkF m 0 #[.val (.ref x), .val (.int p1)] [])) t → Steps p.tables e below (s₁.setTop (entryFrame m #[(.ref x), (.int p1)] 2)) t := fun t k => castTop (ef_14 m x A p1) k
  generalize hE0 : s₁.setTop (entryFrame m #[(.ref x), (.int p1)] 2) = E0 at pre0 ⊢
  apply Classical.byContradiction
  intro hno
  unfold f14 at hf
  obtain ⟨T1031, X1031, e1031, st1031⟩ := getF X0 hx hZ hown (host := "") (Or.inl (hw _ (tk 50 rfl))) Via.refl e0 (B0.fld 10 rfl) (g := (mkF m 1 (lt2 x p1) [(.ref x)])) rfl rfl (hb hby d14_1)
  obtain ⟨g1032, hf1033⟩ := own_gd hf
  clear hf
  obtain ⟨v1035, d_v1035, hf1036⟩ := own_nai hf1033
  clear hf1033
  obtain ⟨cl1034, Ar1034, hin1034, hat1034⟩ := B0.get 8 (Or.inl (by decide)) g1032 d_v1035
  have At1034 : Arr Z h0 (A 8) cl1034 .int := Ar1034
  obtain ⟨rfl, rfl⟩ := own_ret hf1036
  obtain ⟨fs, hr, hrun, hended, hW, hsame⟩ := X1031.leave (v := some (.int v1035)) (fun h => by rw [Bd.returns] at h; cases h) (BodyLoose.notSynchronized Bd)
  refine hno ⟨_, _, pre0 _ ?_, hrun, hended, _, _, rfl, ?_, ⟨_, rfl⟩, hW, hsame.mono (by decide) (by decide)⟩
  · show Sp p e below s₁ (mkF m 0 (lt2 x p1) []) _
    refine XS.aloadN X0.here hx rfl (hb hby d14_0) rfl rfl ?_
    show Sp p e below s₁ (mkF m 1 (lt2 x p1) [(.ref x)]) _
    refine st1031 _ ?_
    show Sp p e below T1031 (mkF m 4 (lt2 x p1) [(.ref (A 8))]) _
    refine XS.iloadN X1031.here hx rfl (hb hby d14_4) rfl ?_
    show Sp p e below T1031 (mkF m 5 (lt2 x p1) [(.int p1), (.ref (A 8))]) _
    refine X1031.iaload hx (j := p1) (v := (.int v1035)) (by rw [e1031]; exact Ar1034.1) (State.isArrayOf_alike hZ.alike At1034.2.1) At1034.2.2 hin1034 hat1034 (g := (mkF m 5 (lt2 x p1) [(.int p1), (.ref (A 8))])) rfl rfl (hb hby d14_5) _ ?_
    show Sp p e below T1031 (mkF m 6 (lt2 x p1) [(.int v1035)]) _
    exact retI X1031 hx Bd.returns (hb hby d14_6) hr
  · show Q14 Z n0 ex x A K S0 nc _ _ _ T1031.heap _
    rw [e1031]
    exact ⟨rfl, N0, O0, B0⟩
theorem pn_11 : plainName "com/example/onetree/onetree/EdgeStatesListNeighboursPinLaw" = true := by first | (simp [plainName, overriddenIn]; done) | decide +kernel
def f11 (nc : Nat) (M : MM) (p1 : Int32) : Option (Int32 × MM) := nam (setN [0, 0, 0] 13 M) fun M989 => bnd (f12 nc M989 (0 : Int32) p1 (0 : Int32)) fun v1011 M1011 => bnd (f12 nc M1011 v1011 p1 (1 : Int32)) fun v1013 M1013 => bnd (f12 nc M1013 v1013 p1 (2 : Int32)) fun v1015 M1015 => bnd (f12 nc M1015 v1015 p1 (3 : Int32)) fun v1017 M1017 => bnd (f9 nc M1017 p1) fun v1019 M1019 => bnd (f10 nc M1019 p1) fun v1021 M1021 => cnd (eqB (v1021 - v1019) v1017) (cnd (ltB v1017 (1 : Int32)) (cnd (ltB v1017 (2 : Int32)) (cnd (ltB v1017 (3 : Int32)) (some ((1 : Int32), setN [] 13 M1021)) (bnd (f14 nc M1021 (v1019 + (2 : Int32))) fun v1037 M1037 => gd (inr (2 : Int32) (lnR nc 13)) (nai (ld M1037 13 (ix (2 : Int32))) fun v1042 => cnd (eqB v1037 v1042) (some ((1 : Int32), setN [] 13 M1037)) (some ((0 : Int32), setN [] 13 M1037))))) (bnd (f14 nc M1021 (v1019 + (1 : Int32))) fun v1046 M1046 => gd (inr (1 : Int32) (lnR nc 13)) (nai (ld M1046 13 (ix (1 : Int32))) fun v1051 => cnd (eqB v1046 v1051) (cnd (ltB v1017 (3 : Int32)) (some ((1 : Int32), setN [] 13 M1046)) (bnd (f14 nc M1046 (v1019 + (2 : Int32))) fun v1057 M1057 => gd (inr (2 : Int32) (lnR nc 13)) (nai (ld M1057 13 (ix (2 : Int32))) fun v1062 => cnd (eqB v1057 v1062) (some ((1 : Int32), setN [] 13 M1057)) (some ((0 : Int32), setN [] 13 M1057))))) (some ((0 : Int32), setN [] 13 M1046))))) (bnd (f14 nc M1021 v1019) fun v1066 M1066 => gd (inr (0 : Int32) (lnR nc 13)) (nai (ld M1066 13 (ix (0 : Int32))) fun v1071 => cnd (eqB v1066 v1071) (cnd (ltB v1017 (2 : Int32)) (cnd (ltB v1017 (3 : Int32)) (some ((1 : Int32), setN [] 13 M1066)) (bnd (f14 nc M1066 (v1019 + (2 : Int32))) fun v1079 M1079 => gd (inr (2 : Int32) (lnR nc 13)) (nai (ld M1079 13 (ix (2 : Int32))) fun v1084 => cnd (eqB v1079 v1084) (some ((1 : Int32), setN [] 13 M1079)) (some ((0 : Int32), setN [] 13 M1079))))) (bnd (f14 nc M1066 (v1019 + (1 : Int32))) fun v1088 M1088 => gd (inr (1 : Int32) (lnR nc 13)) (nai (ld M1088 13 (ix (1 : Int32))) fun v1093 => cnd (eqB v1088 v1093) (cnd (ltB v1017 (3 : Int32)) (some ((1 : Int32), setN [] 13 M1088)) (bnd (f14 nc M1088 (v1019 + (2 : Int32))) fun v1099 M1099 => gd (inr (2 : Int32) (lnR nc 13)) (nai (ld M1099 13 (ix (2 : Int32))) fun v1104 => cnd (eqB v1099 v1104) (some ((1 : Int32), setN [] 13 M1099)) (some ((0 : Int32), setN [] 13 M1099))))) (some ((0 : Int32), setN [] 13 M1088))))) (some ((0 : Int32), setN [] 13 M1066))))) (some ((0 : Int32), setN [] 13 M1021))
theorem ef_11 (m : MethodId) (x : Addr) (A : Nat → Addr) (p1 : Int32) : entryFrame m #[(.ref x), (.int p1)] 5 = mkF m 0 #[.val (.ref x), .val (.int p1), .unset, .unset, .unset] [] := by first | (simp [entryFrame, mkF, argsToLocals, Value.category]; done) | rfl
def Q11 (Z : State) (n0 : Nat) (ex : Bool) (x : Addr) (A : Nat → Addr) (K : Nat → ClassId) (S0 : Addr) (nc : Nat) (rv : Int32) (M' : MM) (v : Option Value) (h : Heap) (L : List Loc) : Prop := v = some (.int rv) ∧ Fr n0 L ∧ Old Z n0 h ∧ EB Z n0 ex h x A K S0 nc M'
set_option maxRecDepth 65536 in
set_option maxHeartbeats 40000000 in
theorem rm11 (l : Launch) (Z : State) (a0 : Array Value) (hw : ∀ d ∈ tables_1, d.before a0 Z = true) (ws : List Jvm.Cond) (hSl : SlotsOK Z) (x : Addr) (A : Nat → Addr) (K : Nat → ClassId) (S0 : Addr) (nc : Nat) (M : MM) (p1 : Int32) (rv : Int32) (M' : MM) (h0 : Heap) (n0 : Nat) (O0 : Old Z n0 h0) (B0 : EB Z n0 false h0 x A K S0 nc M) (hf : f11 nc M p1 = some (rv, M')) :
    MetFree l Y61 (head1 (Jvm.Cond.code Y61 method_5_code 5 (some .boolean) :: ws) ({ frames := 2, cells := 1, slots := 3, locals := 30 } : Room)) (fun a U => a = #[(.ref x), (.int p1)] ∧ Z.Warmed39 U.vm ∧ U.heap = h0) (fun _ _ _ _ _ => True) (fun _ U o U' => ∃ v L, o = .returned v ∧ Q11 Z n0 false x A K S0 nc rv M' v U'.heap L ∧ FrameEnd U o U' L ({ frames := 2, cells := 1, slots := 3, locals := 30 } : Room).cells ({ frames := 2, cells := 1, slots := 3, locals := 30 } : Room).slots) := by
  refine MetFree.of_bodySF (plainFor_of_name pn_11) hisR ?_
  intro p e s m args below meth c s₁ Bd hml0 hP hK
  obtain ⟨rfl, hZ, hh⟩ := hP
  have hx := Bd.exec
  have hby := Bd.bytes
  have hml : c.maxLocals = 5 := hml0
  have hown : s.vm.findClass "com/example/onetree/onetree/EdgeStatesListNeighboursPinLaw" = some m.cls := findClass_of_methodNamed Bd.named
  have X0 : Stand p l e ({ frames := 2, cells := 1, slots := 3, locals := 30 } : Room) s m #[(.ref x), (.int p1)] below meth c s₁ [] 0 0 := Stand.of_body Bd
  have e0 : s₁.heap = h0 := by rw [← hh, Bd.state]; rfl
  have N0 := Fr.nil n0
  have pre0 : ∀ t, Steps p.tables e below (s₁.setTop (mkF m 0 #[.val (.ref x), .val (.int p1), .unset, .unset, .unset] [])) t → Steps p.tables e below (s₁.setTop (entryFrame m #[(.ref x), (.int p1)] 5)) t := fun t k => castTop (ef_11 m x A p1) k
  generalize hE0 : s₁.setTop (entryFrame m #[(.ref x), (.int p1)] 5) = E0 at pre0 ⊢
  apply Classical.byContradiction
  intro hno
  unfold f11 at hf
  obtain ⟨T989, h989, k989, X989, e989, E989, A989, st989⟩ := newP X0 hx hZ (hw _ (tk 23 rfl)) e0 (g := (mkF m 1 (lt16 x p1) [(.int (3 : Int32))])) rfl (hb hby d11_1) rfl (by decide) (cap := 3) (by decide) (by decide) (by decide) (by decide)
  obtain ⟨b989, g989⟩ : ∃ z, z = h0.size := ⟨_, rfl⟩
  rw [← g989] at A989 st989
  have O989 : Old Z n0 h989 := O0.ext E989
  have B989 := EB.alloc B0 O0 E989 A989 g989
  obtain ⟨M989, d_M989, hf990⟩ := own_nam hf
  clear hf
  rw [← d_M989] at B989
  obtain ⟨v1011, M1011, hc1011, hf1012⟩ := own_bnd hf990
  clear hf990
  obtain ⟨_, _, ⟨T1011, L1011, k1011, n1011⟩, -, X1011, ⟨Lc1011, hQ1011, l1011, y1011, z1011⟩, st1011⟩ := Jvm.LawKit.callS X989 hx (y := Y59) hown (mvT hZ (hw _ (tk 84 rfl))) (mvT hZ (hw _ (tk 85 rfl))) (mvT hZ (hw _ (tk 54 rfl))) (mvT hZ (hw _ (tk 86 rfl))) (by decide) (backOf (W := 0) (rm12 l Z a0 hw [] hSl  x (upA A b989) (upA K k989) S0 nc M989 (0 : Int32) p1 (0 : Int32) v1011 M1011 h989 n0 O989 B989 hc1011) hZ (hw _ (tk 86 rfl)) (hw _ (tk 54 rfl)) (by decide) (by decide)) (g := (mkF m 11 (lt37 x p1 b989 (0 : Int32)) [(.int (0 : Int32)), (.int p1), (.ref x), (.int (0 : Int32)), (.ref b989)])) rfl (by rw [hml]; rfl) (argsL := [(.ref b989), (.int (0 : Int32)), (.ref x), (.int p1), (.int (0 : Int32))]) (rest := []) (lenOf pd_14 rfl) rfl (by show 2 * 0 + _ ≤ _; exact Nat.le_of_eq rfl) (hb hby d11_11) (fun _ _ => ⟨rfl, e989, (by decide : 1 + 0 ≤ _), (by decide : 3 + 0 ≤ _)⟩)
  dsimp only [Pt.U, Pt.locs, Pt.cells, Pt.slots] at X1011 l1011 y1011 z1011 st1011 hQ1011
  rw [l1011, y1011, z1011] at X1011
  obtain ⟨rv1011, N1011q, O1011, B1011⟩ := hQ1011
  subst rv1011
  have N1011 := Fr.app N0 N1011q
  obtain ⟨v1013, M1013, hc1013, hf1014⟩ := own_bnd hf1012
  clear hf1012
  obtain ⟨_, _, ⟨T1013, L1013, k1013, n1013⟩, -, X1013, ⟨Lc1013, hQ1013, l1013, y1013, z1013⟩, st1013⟩ := Jvm.LawKit.callS X1011 hx (y := Y59) hown (mvT hZ (hw _ (tk 84 rfl))) (mvT hZ (hw _ (tk 85 rfl))) (mvT hZ (hw _ (tk 54 rfl))) (mvT hZ (hw _ (tk 86 rfl))) (by decide) (backOf (W := 0) (rm12 l Z a0 hw [] hSl  x (upA A b989) (upA K k989) S0 nc M1011 v1011 p1 (1 : Int32) v1013 M1013 T1011.heap n0 O1011 B1011 hc1013) hZ (hw _ (tk 86 rfl)) (hw _ (tk 54 rfl)) (by decide) (by decide)) (g := (mkF m 20 (lt37 x p1 b989 v1011) [(.int (1 : Int32)), (.int p1), (.ref x), (.int v1011), (.ref b989)])) rfl (by rw [hml]; rfl) (argsL := [(.ref b989), (.int v1011), (.ref x), (.int p1), (.int (1 : Int32))]) (rest := []) (lenOf pd_14 rfl) rfl (by show 2 * 0 + _ ≤ _; exact Nat.le_of_eq rfl) (hb hby d11_20) (fun _ _ => ⟨rfl, rfl, (by decide : 1 + 0 ≤ _), (by decide : 3 + 0 ≤ _)⟩)
  dsimp only [Pt.U, Pt.locs, Pt.cells, Pt.slots] at X1013 l1013 y1013 z1013 st1013 hQ1013
  rw [l1013, y1013, z1013] at X1013
  obtain ⟨rv1013, N1013q, O1013, B1013⟩ := hQ1013
  subst rv1013
  have N1013 := Fr.app N1011 N1013q
  obtain ⟨v1015, M1015, hc1015, hf1016⟩ := own_bnd hf1014
  clear hf1014
  obtain ⟨_, _, ⟨T1015, L1015, k1015, n1015⟩, -, X1015, ⟨Lc1015, hQ1015, l1015, y1015, z1015⟩, st1015⟩ := Jvm.LawKit.callS X1013 hx (y := Y59) hown (mvT hZ (hw _ (tk 84 rfl))) (mvT hZ (hw _ (tk 85 rfl))) (mvT hZ (hw _ (tk 54 rfl))) (mvT hZ (hw _ (tk 86 rfl))) (by decide) (backOf (W := 0) (rm12 l Z a0 hw [] hSl  x (upA A b989) (upA K k989) S0 nc M1013 v1013 p1 (2 : Int32) v1015 M1015 T1013.heap n0 O1013 B1013 hc1015) hZ (hw _ (tk 86 rfl)) (hw _ (tk 54 rfl)) (by decide) (by decide)) (g := (mkF m 29 (lt37 x p1 b989 v1013) [(.int (2 : Int32)), (.int p1), (.ref x), (.int v1013), (.ref b989)])) rfl (by rw [hml]; rfl) (argsL := [(.ref b989), (.int v1013), (.ref x), (.int p1), (.int (2 : Int32))]) (rest := []) (lenOf pd_14 rfl) rfl (by show 2 * 0 + _ ≤ _; exact Nat.le_of_eq rfl) (hb hby d11_29) (fun _ _ => ⟨rfl, rfl, (by decide : 1 + 0 ≤ _), (by decide : 3 + 0 ≤ _)⟩)
  dsimp only [Pt.U, Pt.locs, Pt.cells, Pt.slots] at X1015 l1015 y1015 z1015 st1015 hQ1015
  rw [l1015, y1015, z1015] at X1015
  obtain ⟨rv1015, N1015q, O1015, B1015⟩ := hQ1015
  subst rv1015
  have N1015 := Fr.app N1013 N1015q
  obtain ⟨v1017, M1017, hc1017, hf1018⟩ := own_bnd hf1016
  clear hf1016
  obtain ⟨_, _, ⟨T1017, L1017, k1017, n1017⟩, -, X1017, ⟨Lc1017, hQ1017, l1017, y1017, z1017⟩, st1017⟩ := Jvm.LawKit.callS X1015 hx (y := Y59) hown (mvT hZ (hw _ (tk 84 rfl))) (mvT hZ (hw _ (tk 85 rfl))) (mvT hZ (hw _ (tk 54 rfl))) (mvT hZ (hw _ (tk 86 rfl))) (by decide) (backOf (W := 0) (rm12 l Z a0 hw [] hSl  x (upA A b989) (upA K k989) S0 nc M1015 v1015 p1 (3 : Int32) v1017 M1017 T1015.heap n0 O1015 B1015 hc1017) hZ (hw _ (tk 86 rfl)) (hw _ (tk 54 rfl)) (by decide) (by decide)) (g := (mkF m 38 (lt37 x p1 b989 v1015) [(.int (3 : Int32)), (.int p1), (.ref x), (.int v1015), (.ref b989)])) rfl (by rw [hml]; rfl) (argsL := [(.ref b989), (.int v1015), (.ref x), (.int p1), (.int (3 : Int32))]) (rest := []) (lenOf pd_14 rfl) rfl (by show 2 * 0 + _ ≤ _; exact Nat.le_of_eq rfl) (hb hby d11_38) (fun _ _ => ⟨rfl, rfl, (by decide : 1 + 0 ≤ _), (by decide : 3 + 0 ≤ _)⟩)
  dsimp only [Pt.U, Pt.locs, Pt.cells, Pt.slots] at X1017 l1017 y1017 z1017 st1017 hQ1017
  rw [l1017, y1017, z1017] at X1017
  obtain ⟨rv1017, N1017q, O1017, B1017⟩ := hQ1017
  subst rv1017
  have N1017 := Fr.app N1015 N1017q
  obtain ⟨v1019, M1019, hc1019, hf1020⟩ := own_bnd hf1018
  clear hf1018
  obtain ⟨cq1019, kq1019, q1019a, q1019b, q1019c⟩ := isOf hZ rfl B1017.exa
  obtain ⟨_, _, ⟨T1019, L1019, k1019, n1019⟩, -, X1019, ⟨Lc1019, hQ1019, l1019, y1019, z1019⟩, st1019⟩ := X1017.virtualBack hx (y := Y53) (z := Y53) hown (mvT hZ (hw _ (tk 71 rfl))) (mvT hZ (hw _ (tk 72 rfl))) (notFace_of_selects (args := #[]) (mvT hZ (hw _ (tk 74 rfl)))) (mvT hZ (hw _ (tk 74 rfl))) (mvT hZ (hw _ (tk 73 rfl))) (by decide) (backOf (W := 0) (rm9 l Z a0 hw [] hSl true x (upA A b989) (upA K k989) S0 nc M1017 p1 v1019 M1019 T1017.heap n0 O1017 B1017 hc1019) hZ (hw _ (tk 75 rfl)) (hw _ (tk 2 rfl)) (by decide) (by decide)) q1019a q1019c (g := (mkF m 44 (lt37 x p1 b989 v1017) [(.int p1), (.ref x)])) rfl (by rw [hml]; rfl) (Steps.refl _) (argsL := [(.int p1)]) (rest := []) (lenOf pd_12 rfl) rfl (by show 2 * 0 + _ ≤ _; exact Nat.le_of_eq rfl) (hb hby d11_44) (fun _ _ => ⟨rfl, rfl, (by decide : 1 + 0 ≤ _), (by decide : 3 + 0 ≤ _)⟩)
  dsimp only [Pt.U, Pt.locs, Pt.cells, Pt.slots] at X1019 l1019 y1019 z1019 st1019 hQ1019
  rw [l1019, y1019, z1019] at X1019
  obtain ⟨rv1019, N1019q, O1019, B1019⟩ := hQ1019
  subst rv1019
  have N1019 := Fr.app N1017 N1019q
  obtain ⟨v1021, M1021, hc1021, hf1022⟩ := own_bnd hf1020
  clear hf1020
  obtain ⟨cq1021, kq1021, q1021a, q1021b, q1021c⟩ := isOf hZ rfl B1019.exa
  obtain ⟨_, _, ⟨T1021, L1021, k1021, n1021⟩, -, X1021, ⟨Lc1021, hQ1021, l1021, y1021, z1021⟩, st1021⟩ := X1019.virtualBack hx (y := Y54) (z := Y54) hown (mvT hZ (hw _ (tk 76 rfl))) (mvT hZ (hw _ (tk 77 rfl))) (notFace_of_selects (args := #[]) (mvT hZ (hw _ (tk 79 rfl)))) (mvT hZ (hw _ (tk 79 rfl))) (mvT hZ (hw _ (tk 78 rfl))) (by decide) (backOf (W := 0) (rm10 l Z a0 hw [] hSl true x (upA A b989) (upA K k989) S0 nc M1019 p1 v1021 M1021 T1019.heap n0 O1019 B1019 hc1021) hZ (hw _ (tk 80 rfl)) (hw _ (tk 2 rfl)) (by decide) (by decide)) q1021a q1021c (g := (mkF m 51 (lt38 x p1 b989 v1017 v1019) [(.int p1), (.ref x)])) rfl (by rw [hml]; rfl) (Steps.refl _) (argsL := [(.int p1)]) (rest := []) (lenOf pd_12 rfl) rfl (by show 2 * 0 + _ ≤ _; exact Nat.le_of_eq rfl) (hb hby d11_51) (fun _ _ => ⟨rfl, rfl, (by decide : 1 + 0 ≤ _), (by decide : 3 + 0 ≤ _)⟩)
  dsimp only [Pt.U, Pt.locs, Pt.cells, Pt.slots] at X1021 l1021 y1021 z1021 st1021 hQ1021
  rw [l1021, y1021, z1021] at X1021
  obtain ⟨rv1021, N1021q, O1021, B1021⟩ := hQ1021
  subst rv1021
  have N1021 := Fr.app N1019 N1021q
  have pre1023 : Cm p e below E0 (T1021.setTop (mkF m 58 (lt38 x p1 b989 v1017 v1019) [(.int v1017), (.int (v1021 - v1019))])) := fun t kt => by
    refine pre0 t ?_
    show Sp p e below s₁ (mkF m 0 (lt16 x p1) []) _
    refine XS.iconst X0.here hx rfl (hb hby d11_0) ?_
    show Sp p e below s₁ (mkF m 1 (lt16 x p1) [(.int (3 : Int32))]) _
    refine st989 _ ?_
    show Sp p e below T989 (mkF m 3 (lt16 x p1) [(.ref b989)]) _
    refine XS.astoreN X989.here hx rfl (hb hby d11_3) rfl rfl (l' := (lt36 x p1 b989)) rfl ?_
    refine XS.iconst X989.here hx rfl (hb hby d11_4) ?_
    show Sp p e below T989 (mkF m 5 (lt36 x p1 b989) [(.int (0 : Int32))]) _
    refine XS.istoreN X989.here hx rfl (hb hby d11_5) rfl (l' := (lt37 x p1 b989 (0 : Int32))) rfl ?_
    refine XS.aloadN X989.here hx rfl (hb hby d11_6) rfl rfl ?_
    show Sp p e below T989 (mkF m 7 (lt37 x p1 b989 (0 : Int32)) [(.ref b989)]) _
    refine XS.iloadN X989.here hx rfl (hb hby d11_7) rfl ?_
    refine XS.aloadN X989.here hx rfl (hb hby d11_8) rfl rfl ?_
    show Sp p e below T989 (mkF m 9 (lt37 x p1 b989 (0 : Int32)) [(.ref x), (.int (0 : Int32)), (.ref b989)]) _
    refine XS.iloadN X989.here hx rfl (hb hby d11_9) rfl ?_
    refine XS.iconst X989.here hx rfl (hb hby d11_10) ?_
    show Sp p e below T989 (mkF m 11 (lt37 x p1 b989 (0 : Int32)) [(.int (0 : Int32)), (.int p1), (.ref x), (.int (0 : Int32)), (.ref b989)]) _
    refine st1011 _ ?_
    show Sp p e below T1011 (mkF m 14 (lt37 x p1 b989 (0 : Int32)) [(.int v1011)]) _
    refine XS.istoreN X1011.here hx rfl (hb hby d11_14) rfl (l' := (lt37 x p1 b989 v1011)) rfl ?_
    refine XS.aloadN X1011.here hx rfl (hb hby d11_15) rfl rfl ?_
    show Sp p e below T1011 (mkF m 16 (lt37 x p1 b989 v1011) [(.ref b989)]) _
    refine XS.iloadN X1011.here hx rfl (hb hby d11_16) rfl ?_
    refine XS.aloadN X1011.here hx rfl (hb hby d11_17) rfl rfl ?_
    show Sp p e below T1011 (mkF m 18 (lt37 x p1 b989 v1011) [(.ref x), (.int v1011), (.ref b989)]) _
    refine XS.iloadN X1011.here hx rfl (hb hby d11_18) rfl ?_
    refine XS.iconst X1011.here hx rfl (hb hby d11_19) ?_
    show Sp p e below T1011 (mkF m 20 (lt37 x p1 b989 v1011) [(.int (1 : Int32)), (.int p1), (.ref x), (.int v1011), (.ref b989)]) _
    refine st1013 _ ?_
    show Sp p e below T1013 (mkF m 23 (lt37 x p1 b989 v1011) [(.int v1013)]) _
    refine XS.istoreN X1013.here hx rfl (hb hby d11_23) rfl (l' := (lt37 x p1 b989 v1013)) rfl ?_
    refine XS.aloadN X1013.here hx rfl (hb hby d11_24) rfl rfl ?_
    show Sp p e below T1013 (mkF m 25 (lt37 x p1 b989 v1013) [(.ref b989)]) _
    refine XS.iloadN X1013.here hx rfl (hb hby d11_25) rfl ?_
    refine XS.aloadN X1013.here hx rfl (hb hby d11_26) rfl rfl ?_
    show Sp p e below T1013 (mkF m 27 (lt37 x p1 b989 v1013) [(.ref x), (.int v1013), (.ref b989)]) _
    refine XS.iloadN X1013.here hx rfl (hb hby d11_27) rfl ?_
    refine XS.iconst X1013.here hx rfl (hb hby d11_28) ?_
    show Sp p e below T1013 (mkF m 29 (lt37 x p1 b989 v1013) [(.int (2 : Int32)), (.int p1), (.ref x), (.int v1013), (.ref b989)]) _
    refine st1015 _ ?_
    show Sp p e below T1015 (mkF m 32 (lt37 x p1 b989 v1013) [(.int v1015)]) _
    refine XS.istoreN X1015.here hx rfl (hb hby d11_32) rfl (l' := (lt37 x p1 b989 v1015)) rfl ?_
    refine XS.aloadN X1015.here hx rfl (hb hby d11_33) rfl rfl ?_
    show Sp p e below T1015 (mkF m 34 (lt37 x p1 b989 v1015) [(.ref b989)]) _
    refine XS.iloadN X1015.here hx rfl (hb hby d11_34) rfl ?_
    refine XS.aloadN X1015.here hx rfl (hb hby d11_35) rfl rfl ?_
    show Sp p e below T1015 (mkF m 36 (lt37 x p1 b989 v1015) [(.ref x), (.int v1015), (.ref b989)]) _
    refine XS.iloadN X1015.here hx rfl (hb hby d11_36) rfl ?_
    refine XS.iconst X1015.here hx rfl (hb hby d11_37) ?_
    show Sp p e below T1015 (mkF m 38 (lt37 x p1 b989 v1015) [(.int (3 : Int32)), (.int p1), (.ref x), (.int v1015), (.ref b989)]) _
    refine st1017 _ ?_
    show Sp p e below T1017 (mkF m 41 (lt37 x p1 b989 v1015) [(.int v1017)]) _
    refine XS.istoreN X1017.here hx rfl (hb hby d11_41) rfl (l' := (lt37 x p1 b989 v1017)) rfl ?_
    refine XS.aloadN X1017.here hx rfl (hb hby d11_42) rfl rfl ?_
    show Sp p e below T1017 (mkF m 43 (lt37 x p1 b989 v1017) [(.ref x)]) _
    refine XS.iloadN X1017.here hx rfl (hb hby d11_43) rfl ?_
    show Sp p e below T1017 (mkF m 44 (lt37 x p1 b989 v1017) [(.int p1), (.ref x)]) _
    refine st1019.trans ?_
    show Sp p e below T1019 (mkF m 47 (lt37 x p1 b989 v1017) [(.int v1019)]) _
    refine XS.istore X1019.here hx rfl (hb hby d11_47) rfl (l' := (lt38 x p1 b989 v1017 v1019)) rfl ?_
    refine XS.aloadN X1019.here hx rfl (hb hby d11_49) rfl rfl ?_
    show Sp p e below T1019 (mkF m 50 (lt38 x p1 b989 v1017 v1019) [(.ref x)]) _
    refine XS.iloadN X1019.here hx rfl (hb hby d11_50) rfl ?_
    show Sp p e below T1019 (mkF m 51 (lt38 x p1 b989 v1017 v1019) [(.int p1), (.ref x)]) _
    refine st1021.trans ?_
    show Sp p e below T1021 (mkF m 54 (lt38 x p1 b989 v1017 v1019) [(.int v1021)]) _
    refine XS.iload X1021.here hx rfl (hb hby d11_54) rfl ?_
    refine XS.isub X1021.here hx rfl (hb hby d11_56) rfl ?_
    show Sp p e below T1021 (mkF m 57 (lt38 x p1 b989 v1017 v1019) [(.int (v1021 - v1019))]) _
    refine XS.iloadN X1021.here hx rfl (hb hby d11_57) rfl ?_
    show Sp p e below T1021 (mkF m 58 (lt38 x p1 b989 v1017 v1019) [(.int v1017), (.int (v1021 - v1019))]) _
    exact kt
  by_cases hc1024 : (v1021 - v1019) = v1017
  · rw [own_eqT hc1024] at hf1022
    have pre1025 : Cm p e below E0 (T1021.setTop (mkF m 65 (lt38 x p1 b989 v1017 v1019) [(.int (1 : Int32)), (.int v1017)])) := fun t kt => by
      refine pre1023 t ?_
      show Sp p e below T1021 (mkF m 58 (lt38 x p1 b989 v1017 v1019) [(.int v1017), (.int (v1021 - v1019))]) _
      refine XS.icmpYes X1021.here hx rfl (pc0 := 58) (pc' := 63) rfl (hb hby d11_58) rfl (teq hc1024).1 (by decide) (by decide) ?_
      show Sp p e below T1021 (mkF m 63 (lt38 x p1 b989 v1017 v1019) []) _
      refine XS.iloadN X1021.here hx rfl (hb hby d11_63) rfl ?_
      refine XS.iconst X1021.here hx rfl (hb hby d11_64) ?_
      show Sp p e below T1021 (mkF m 65 (lt38 x p1 b989 v1017 v1019) [(.int (1 : Int32)), (.int v1017)]) _
      exact kt
    by_cases hc1026 : v1017 < (1 : Int32)
    · rw [own_ltT hc1026] at hf1022
      have pre1027 : Cm p e below E0 (T1021.setTop (mkF m 82 (lt38 x p1 b989 v1017 v1019) [(.int (2 : Int32)), (.int v1017)])) := fun t kt => by
        refine pre1025 t ?_
        show Sp p e below T1021 (mkF m 65 (lt38 x p1 b989 v1017 v1019) [(.int (1 : Int32)), (.int v1017)]) _
        refine XS.icmpYes X1021.here hx rfl (pc0 := 65) (pc' := 80) rfl (hb hby d11_65) rfl (tlt hc1026).1 (by decide) (by decide) ?_
        show Sp p e below T1021 (mkF m 80 (lt38 x p1 b989 v1017 v1019) []) _
        refine XS.iloadN X1021.here hx rfl (hb hby d11_80) rfl ?_
        refine XS.iconst X1021.here hx rfl (hb hby d11_81) ?_
        show Sp p e below T1021 (mkF m 82 (lt38 x p1 b989 v1017 v1019) [(.int (2 : Int32)), (.int v1017)]) _
        exact kt
      by_cases hc1028 : v1017 < (2 : Int32)
      · rw [own_ltT hc1028] at hf1022
        have pre1029 : Cm p e below E0 (T1021.setTop (mkF m 101 (lt38 x p1 b989 v1017 v1019) [(.int (3 : Int32)), (.int v1017)])) := fun t kt => by
          refine pre1027 t ?_
          show Sp p e below T1021 (mkF m 82 (lt38 x p1 b989 v1017 v1019) [(.int (2 : Int32)), (.int v1017)]) _
          refine XS.icmpYes X1021.here hx rfl (pc0 := 82) (pc' := 99) rfl (hb hby d11_82) rfl (tlt hc1028).1 (by decide) (by decide) ?_
          show Sp p e below T1021 (mkF m 99 (lt38 x p1 b989 v1017 v1019) []) _
          refine XS.iloadN X1021.here hx rfl (hb hby d11_99) rfl ?_
          refine XS.iconst X1021.here hx rfl (hb hby d11_100) ?_
          show Sp p e below T1021 (mkF m 101 (lt38 x p1 b989 v1017 v1019) [(.int (3 : Int32)), (.int v1017)]) _
          exact kt
        by_cases hc1030 : v1017 < (3 : Int32)
        · rw [own_ltT hc1030] at hf1022
          have Bz := EB.drop B1021
          obtain ⟨rfl, rfl⟩ := own_ret hf1022
          obtain ⟨fs, hr, hrun, hended, hW, hsame⟩ := X1021.leave (v := some (.int (1 : Int32))) (fun h => by rw [Bd.returns] at h; cases h) (BodyLoose.notSynchronized Bd)
          refine hno ⟨_, _, pre1029 _ ?_, hrun, hended, _, _, rfl, ?_, ⟨_, rfl⟩, hW, hsame.mono (by decide) (by decide)⟩
          · show Sp p e below T1021 (mkF m 101 (lt38 x p1 b989 v1017 v1019) [(.int (3 : Int32)), (.int v1017)]) _
            refine XS.icmpYes X1021.here hx rfl (pc0 := 101) (pc' := 118) rfl (hb hby d11_101) rfl (tlt hc1030).1 (by decide) (by decide) ?_
            show Sp p e below T1021 (mkF m 118 (lt38 x p1 b989 v1017 v1019) []) _
            refine XS.iconst X1021.here hx rfl (hb hby d11_118) ?_
            show Sp p e below T1021 (mkF m 119 (lt38 x p1 b989 v1017 v1019) [(.int (1 : Int32))]) _
            refine XS.goto X1021.here hx rfl (pc0 := 119) (pc' := 123) rfl (hb hby d11_119) (by decide) (by decide) ?_
            show Sp p e below T1021 (mkF m 123 (lt38 x p1 b989 v1017 v1019) [(.int (1 : Int32))]) _
            exact retN X1021 hx (t := .boolean) Bd.returns (by simp) (hb hby d11_123) hr
          · show Q11 Z n0 false x A K S0 nc _ _ _ T1021.heap _
            exact ⟨rfl, N1021, O1021, Bz⟩
        · rw [own_ltF hc1030] at hf1022
          obtain ⟨v1037, M1037, hc1037, hf1038⟩ := own_bnd hf1022
          clear hf1022
          obtain ⟨cq1037, kq1037, q1037a, q1037b, q1037c⟩ := isOf hZ rfl B1021.exa
          obtain ⟨_, _, ⟨T1037, L1037, k1037, n1037⟩, -, X1037, ⟨Lc1037, hQ1037, l1037, y1037, z1037⟩, st1037⟩ := X1021.virtualBack hx (y := Y60) (z := Y60) hown (mvT hZ (hw _ (tk 92 rfl))) (mvT hZ (hw _ (tk 93 rfl))) (notFace_of_selects (args := #[]) (mvT hZ (hw _ (tk 95 rfl)))) (mvT hZ (hw _ (tk 95 rfl))) (mvT hZ (hw _ (tk 94 rfl))) (by decide) (backOf (W := 0) (rm14 l Z a0 hw [] hSl true x (upA A b989) (upA K k989) S0 nc M1021 (v1019 + (2 : Int32)) v1037 M1037 T1021.heap n0 O1021 B1021 hc1037) hZ (hw _ (tk 96 rfl)) (hw _ (tk 2 rfl)) (by decide) (by decide)) q1037a q1037c (g := (mkF m 109 (lt38 x p1 b989 v1017 v1019) [(.int (v1019 + (2 : Int32))), (.ref x)])) rfl (by rw [hml]; rfl) (Steps.refl _) (argsL := [(.int (v1019 + (2 : Int32)))]) (rest := []) (lenOf pd_12 rfl) rfl (by show 2 * 0 + _ ≤ _; exact Nat.le_of_eq rfl) (hb hby d11_109) (fun _ _ => ⟨rfl, rfl, (by decide : 1 + 0 ≤ _), (by decide : 3 + 0 ≤ _)⟩)
          dsimp only [Pt.U, Pt.locs, Pt.cells, Pt.slots] at X1037 l1037 y1037 z1037 st1037 hQ1037
          rw [l1037, y1037, z1037] at X1037
          obtain ⟨rv1037, N1037q, O1037, B1037⟩ := hQ1037
          subst rv1037
          have N1037 := Fr.app N1021 N1037q
          obtain ⟨g1039, hf1040⟩ := own_gd hf1038
          clear hf1038
          obtain ⟨v1042, d_v1042, hf1043⟩ := own_nai hf1040
          clear hf1040
          obtain ⟨cl1041, Ar1041, hin1041, hat1041⟩ := B1037.get 13 (Or.inr (Or.inl ⟨rfl, rfl⟩)) g1039 d_v1042
          have At1041 : Arr Z T1037.heap b989 cl1041 .int := Ar1041
          have pre1044 : Cm p e below E0 (T1037.setTop (mkF m 115 (lt38 x p1 b989 v1017 v1019) [(.int v1042), (.int v1037)])) := fun t kt => by
            refine pre1029 t ?_
            show Sp p e below T1021 (mkF m 101 (lt38 x p1 b989 v1017 v1019) [(.int (3 : Int32)), (.int v1017)]) _
            refine XS.icmpNo X1021.here hx rfl (hb hby d11_101) rfl (flt hc1030).1 ?_
            show Sp p e below T1021 (mkF m 104 (lt38 x p1 b989 v1017 v1019) []) _
            refine XS.aloadN X1021.here hx rfl (hb hby d11_104) rfl rfl ?_
            refine XS.iload X1021.here hx rfl (hb hby d11_105) rfl ?_
            show Sp p e below T1021 (mkF m 107 (lt38 x p1 b989 v1017 v1019) [(.int v1019), (.ref x)]) _
            refine XS.iconst X1021.here hx rfl (hb hby d11_107) ?_
            refine XS.iadd X1021.here hx rfl (hb hby d11_108) rfl ?_
            show Sp p e below T1021 (mkF m 109 (lt38 x p1 b989 v1017 v1019) [(.int (v1019 + (2 : Int32))), (.ref x)]) _
            refine st1037.trans ?_
            show Sp p e below T1037 (mkF m 112 (lt38 x p1 b989 v1017 v1019) [(.int v1037)]) _
            refine XS.aloadN X1037.here hx rfl (hb hby d11_112) rfl rfl ?_
            refine XS.iconst X1037.here hx rfl (hb hby d11_113) ?_
            show Sp p e below T1037 (mkF m 114 (lt38 x p1 b989 v1017 v1019) [(.int (2 : Int32)), (.ref b989), (.int v1037)]) _
            refine X1037.iaload hx (j := (2 : Int32)) (v := (.int v1042)) Ar1041.1 (State.isArrayOf_alike hZ.alike At1041.2.1) At1041.2.2 hin1041 hat1041 (g := (mkF m 114 (lt38 x p1 b989 v1017 v1019) [(.int (2 : Int32)), (.ref b989), (.int v1037)])) rfl rfl (hb hby d11_114) _ ?_
            show Sp p e below T1037 (mkF m 115 (lt38 x p1 b989 v1017 v1019) [(.int v1042), (.int v1037)]) _
            exact kt
          by_cases hc1045 : v1037 = v1042
          · rw [own_eqT hc1045] at hf1043
            have Bz := EB.drop B1037
            obtain ⟨rfl, rfl⟩ := own_ret hf1043
            obtain ⟨fs, hr, hrun, hended, hW, hsame⟩ := X1037.leave (v := some (.int (1 : Int32))) (fun h => by rw [Bd.returns] at h; cases h) (BodyLoose.notSynchronized Bd)
            refine hno ⟨_, _, pre1044 _ ?_, hrun, hended, _, _, rfl, ?_, ⟨_, rfl⟩, hW, hsame.mono (by decide) (by decide)⟩
            · show Sp p e below T1037 (mkF m 115 (lt38 x p1 b989 v1017 v1019) [(.int v1042), (.int v1037)]) _
              refine XS.icmpNo X1037.here hx rfl (hb hby d11_115) rfl (teq hc1045).2 ?_
              show Sp p e below T1037 (mkF m 118 (lt38 x p1 b989 v1017 v1019) []) _
              refine XS.iconst X1037.here hx rfl (hb hby d11_118) ?_
              show Sp p e below T1037 (mkF m 119 (lt38 x p1 b989 v1017 v1019) [(.int (1 : Int32))]) _
              refine XS.goto X1037.here hx rfl (pc0 := 119) (pc' := 123) rfl (hb hby d11_119) (by decide) (by decide) ?_
              show Sp p e below T1037 (mkF m 123 (lt38 x p1 b989 v1017 v1019) [(.int (1 : Int32))]) _
              exact retN X1037 hx (t := .boolean) Bd.returns (by simp) (hb hby d11_123) hr
            · show Q11 Z n0 false x A K S0 nc _ _ _ T1037.heap _
              exact ⟨rfl, N1037, O1037, Bz⟩
          · rw [own_eqF hc1045] at hf1043
            have Bz := EB.drop B1037
            obtain ⟨rfl, rfl⟩ := own_ret hf1043
            obtain ⟨fs, hr, hrun, hended, hW, hsame⟩ := X1037.leave (v := some (.int (0 : Int32))) (fun h => by rw [Bd.returns] at h; cases h) (BodyLoose.notSynchronized Bd)
            refine hno ⟨_, _, pre1044 _ ?_, hrun, hended, _, _, rfl, ?_, ⟨_, rfl⟩, hW, hsame.mono (by decide) (by decide)⟩
            · show Sp p e below T1037 (mkF m 115 (lt38 x p1 b989 v1017 v1019) [(.int v1042), (.int v1037)]) _
              refine XS.icmpYes X1037.here hx rfl (pc0 := 115) (pc' := 122) rfl (hb hby d11_115) rfl (feq hc1045).2 (by decide) (by decide) ?_
              show Sp p e below T1037 (mkF m 122 (lt38 x p1 b989 v1017 v1019) []) _
              refine XS.iconst X1037.here hx rfl (hb hby d11_122) ?_
              show Sp p e below T1037 (mkF m 123 (lt38 x p1 b989 v1017 v1019) [(.int (0 : Int32))]) _
              exact retN X1037 hx (t := .boolean) Bd.returns (by simp) (hb hby d11_123) hr
            · show Q11 Z n0 false x A K S0 nc _ _ _ T1037.heap _
              exact ⟨rfl, N1037, O1037, Bz⟩
      · rw [own_ltF hc1028] at hf1022
        obtain ⟨v1046, M1046, hc1046, hf1047⟩ := own_bnd hf1022
        clear hf1022
        obtain ⟨cq1046, kq1046, q1046a, q1046b, q1046c⟩ := isOf hZ rfl B1021.exa
        obtain ⟨_, _, ⟨T1046, L1046, k1046, n1046⟩, -, X1046, ⟨Lc1046, hQ1046, l1046, y1046, z1046⟩, st1046⟩ := X1021.virtualBack hx (y := Y60) (z := Y60) hown (mvT hZ (hw _ (tk 92 rfl))) (mvT hZ (hw _ (tk 93 rfl))) (notFace_of_selects (args := #[]) (mvT hZ (hw _ (tk 95 rfl)))) (mvT hZ (hw _ (tk 95 rfl))) (mvT hZ (hw _ (tk 94 rfl))) (by decide) (backOf (W := 0) (rm14 l Z a0 hw [] hSl true x (upA A b989) (upA K k989) S0 nc M1021 (v1019 + (1 : Int32)) v1046 M1046 T1021.heap n0 O1021 B1021 hc1046) hZ (hw _ (tk 96 rfl)) (hw _ (tk 2 rfl)) (by decide) (by decide)) q1046a q1046c (g := (mkF m 90 (lt38 x p1 b989 v1017 v1019) [(.int (v1019 + (1 : Int32))), (.ref x)])) rfl (by rw [hml]; rfl) (Steps.refl _) (argsL := [(.int (v1019 + (1 : Int32)))]) (rest := []) (lenOf pd_12 rfl) rfl (by show 2 * 0 + _ ≤ _; exact Nat.le_of_eq rfl) (hb hby d11_90) (fun _ _ => ⟨rfl, rfl, (by decide : 1 + 0 ≤ _), (by decide : 3 + 0 ≤ _)⟩)
        dsimp only [Pt.U, Pt.locs, Pt.cells, Pt.slots] at X1046 l1046 y1046 z1046 st1046 hQ1046
        rw [l1046, y1046, z1046] at X1046
        obtain ⟨rv1046, N1046q, O1046, B1046⟩ := hQ1046
        subst rv1046
        have N1046 := Fr.app N1021 N1046q
        obtain ⟨g1048, hf1049⟩ := own_gd hf1047
        clear hf1047
        obtain ⟨v1051, d_v1051, hf1052⟩ := own_nai hf1049
        clear hf1049
        obtain ⟨cl1050, Ar1050, hin1050, hat1050⟩ := B1046.get 13 (Or.inr (Or.inl ⟨rfl, rfl⟩)) g1048 d_v1051
        have At1050 : Arr Z T1046.heap b989 cl1050 .int := Ar1050
        have pre1053 : Cm p e below E0 (T1046.setTop (mkF m 96 (lt38 x p1 b989 v1017 v1019) [(.int v1051), (.int v1046)])) := fun t kt => by
          refine pre1027 t ?_
          show Sp p e below T1021 (mkF m 82 (lt38 x p1 b989 v1017 v1019) [(.int (2 : Int32)), (.int v1017)]) _
          refine XS.icmpNo X1021.here hx rfl (hb hby d11_82) rfl (flt hc1028).1 ?_
          show Sp p e below T1021 (mkF m 85 (lt38 x p1 b989 v1017 v1019) []) _
          refine XS.aloadN X1021.here hx rfl (hb hby d11_85) rfl rfl ?_
          refine XS.iload X1021.here hx rfl (hb hby d11_86) rfl ?_
          show Sp p e below T1021 (mkF m 88 (lt38 x p1 b989 v1017 v1019) [(.int v1019), (.ref x)]) _
          refine XS.iconst X1021.here hx rfl (hb hby d11_88) ?_
          refine XS.iadd X1021.here hx rfl (hb hby d11_89) rfl ?_
          show Sp p e below T1021 (mkF m 90 (lt38 x p1 b989 v1017 v1019) [(.int (v1019 + (1 : Int32))), (.ref x)]) _
          refine st1046.trans ?_
          show Sp p e below T1046 (mkF m 93 (lt38 x p1 b989 v1017 v1019) [(.int v1046)]) _
          refine XS.aloadN X1046.here hx rfl (hb hby d11_93) rfl rfl ?_
          refine XS.iconst X1046.here hx rfl (hb hby d11_94) ?_
          show Sp p e below T1046 (mkF m 95 (lt38 x p1 b989 v1017 v1019) [(.int (1 : Int32)), (.ref b989), (.int v1046)]) _
          refine X1046.iaload hx (j := (1 : Int32)) (v := (.int v1051)) Ar1050.1 (State.isArrayOf_alike hZ.alike At1050.2.1) At1050.2.2 hin1050 hat1050 (g := (mkF m 95 (lt38 x p1 b989 v1017 v1019) [(.int (1 : Int32)), (.ref b989), (.int v1046)])) rfl rfl (hb hby d11_95) _ ?_
          show Sp p e below T1046 (mkF m 96 (lt38 x p1 b989 v1017 v1019) [(.int v1051), (.int v1046)]) _
          exact kt
        by_cases hc1054 : v1046 = v1051
        · rw [own_eqT hc1054] at hf1052
          have pre1055 : Cm p e below E0 (T1046.setTop (mkF m 101 (lt38 x p1 b989 v1017 v1019) [(.int (3 : Int32)), (.int v1017)])) := fun t kt => by
            refine pre1053 t ?_
            show Sp p e below T1046 (mkF m 96 (lt38 x p1 b989 v1017 v1019) [(.int v1051), (.int v1046)]) _
            refine XS.icmpNo X1046.here hx rfl (hb hby d11_96) rfl (teq hc1054).2 ?_
            show Sp p e below T1046 (mkF m 99 (lt38 x p1 b989 v1017 v1019) []) _
            refine XS.iloadN X1046.here hx rfl (hb hby d11_99) rfl ?_
            refine XS.iconst X1046.here hx rfl (hb hby d11_100) ?_
            show Sp p e below T1046 (mkF m 101 (lt38 x p1 b989 v1017 v1019) [(.int (3 : Int32)), (.int v1017)]) _
            exact kt
          by_cases hc1056 : v1017 < (3 : Int32)
          · rw [own_ltT hc1056] at hf1052
            have Bz := EB.drop B1046
            obtain ⟨rfl, rfl⟩ := own_ret hf1052
            obtain ⟨fs, hr, hrun, hended, hW, hsame⟩ := X1046.leave (v := some (.int (1 : Int32))) (fun h => by rw [Bd.returns] at h; cases h) (BodyLoose.notSynchronized Bd)
            refine hno ⟨_, _, pre1055 _ ?_, hrun, hended, _, _, rfl, ?_, ⟨_, rfl⟩, hW, hsame.mono (by decide) (by decide)⟩
            · show Sp p e below T1046 (mkF m 101 (lt38 x p1 b989 v1017 v1019) [(.int (3 : Int32)), (.int v1017)]) _
              refine XS.icmpYes X1046.here hx rfl (pc0 := 101) (pc' := 118) rfl (hb hby d11_101) rfl (tlt hc1056).1 (by decide) (by decide) ?_
              show Sp p e below T1046 (mkF m 118 (lt38 x p1 b989 v1017 v1019) []) _
              refine XS.iconst X1046.here hx rfl (hb hby d11_118) ?_
              show Sp p e below T1046 (mkF m 119 (lt38 x p1 b989 v1017 v1019) [(.int (1 : Int32))]) _
              refine XS.goto X1046.here hx rfl (pc0 := 119) (pc' := 123) rfl (hb hby d11_119) (by decide) (by decide) ?_
              show Sp p e below T1046 (mkF m 123 (lt38 x p1 b989 v1017 v1019) [(.int (1 : Int32))]) _
              exact retN X1046 hx (t := .boolean) Bd.returns (by simp) (hb hby d11_123) hr
            · show Q11 Z n0 false x A K S0 nc _ _ _ T1046.heap _
              exact ⟨rfl, N1046, O1046, Bz⟩
          · rw [own_ltF hc1056] at hf1052
            obtain ⟨v1057, M1057, hc1057, hf1058⟩ := own_bnd hf1052
            clear hf1052
            obtain ⟨cq1057, kq1057, q1057a, q1057b, q1057c⟩ := isOf hZ rfl B1046.exa
            obtain ⟨_, _, ⟨T1057, L1057, k1057, n1057⟩, -, X1057, ⟨Lc1057, hQ1057, l1057, y1057, z1057⟩, st1057⟩ := X1046.virtualBack hx (y := Y60) (z := Y60) hown (mvT hZ (hw _ (tk 92 rfl))) (mvT hZ (hw _ (tk 93 rfl))) (notFace_of_selects (args := #[]) (mvT hZ (hw _ (tk 95 rfl)))) (mvT hZ (hw _ (tk 95 rfl))) (mvT hZ (hw _ (tk 94 rfl))) (by decide) (backOf (W := 0) (rm14 l Z a0 hw [] hSl true x (upA A b989) (upA K k989) S0 nc M1046 (v1019 + (2 : Int32)) v1057 M1057 T1046.heap n0 O1046 B1046 hc1057) hZ (hw _ (tk 96 rfl)) (hw _ (tk 2 rfl)) (by decide) (by decide)) q1057a q1057c (g := (mkF m 109 (lt38 x p1 b989 v1017 v1019) [(.int (v1019 + (2 : Int32))), (.ref x)])) rfl (by rw [hml]; rfl) (Steps.refl _) (argsL := [(.int (v1019 + (2 : Int32)))]) (rest := []) (lenOf pd_12 rfl) rfl (by show 2 * 0 + _ ≤ _; exact Nat.le_of_eq rfl) (hb hby d11_109) (fun _ _ => ⟨rfl, rfl, (by decide : 1 + 0 ≤ _), (by decide : 3 + 0 ≤ _)⟩)
            dsimp only [Pt.U, Pt.locs, Pt.cells, Pt.slots] at X1057 l1057 y1057 z1057 st1057 hQ1057
            rw [l1057, y1057, z1057] at X1057
            obtain ⟨rv1057, N1057q, O1057, B1057⟩ := hQ1057
            subst rv1057
            have N1057 := Fr.app N1046 N1057q
            obtain ⟨g1059, hf1060⟩ := own_gd hf1058
            clear hf1058
            obtain ⟨v1062, d_v1062, hf1063⟩ := own_nai hf1060
            clear hf1060
            obtain ⟨cl1061, Ar1061, hin1061, hat1061⟩ := B1057.get 13 (Or.inr (Or.inl ⟨rfl, rfl⟩)) g1059 d_v1062
            have At1061 : Arr Z T1057.heap b989 cl1061 .int := Ar1061
            have pre1064 : Cm p e below E0 (T1057.setTop (mkF m 115 (lt38 x p1 b989 v1017 v1019) [(.int v1062), (.int v1057)])) := fun t kt => by
              refine pre1055 t ?_
              show Sp p e below T1046 (mkF m 101 (lt38 x p1 b989 v1017 v1019) [(.int (3 : Int32)), (.int v1017)]) _
              refine XS.icmpNo X1046.here hx rfl (hb hby d11_101) rfl (flt hc1056).1 ?_
              show Sp p e below T1046 (mkF m 104 (lt38 x p1 b989 v1017 v1019) []) _
              refine XS.aloadN X1046.here hx rfl (hb hby d11_104) rfl rfl ?_
              refine XS.iload X1046.here hx rfl (hb hby d11_105) rfl ?_
              show Sp p e below T1046 (mkF m 107 (lt38 x p1 b989 v1017 v1019) [(.int v1019), (.ref x)]) _
              refine XS.iconst X1046.here hx rfl (hb hby d11_107) ?_
              refine XS.iadd X1046.here hx rfl (hb hby d11_108) rfl ?_
              show Sp p e below T1046 (mkF m 109 (lt38 x p1 b989 v1017 v1019) [(.int (v1019 + (2 : Int32))), (.ref x)]) _
              refine st1057.trans ?_
              show Sp p e below T1057 (mkF m 112 (lt38 x p1 b989 v1017 v1019) [(.int v1057)]) _
              refine XS.aloadN X1057.here hx rfl (hb hby d11_112) rfl rfl ?_
              refine XS.iconst X1057.here hx rfl (hb hby d11_113) ?_
              show Sp p e below T1057 (mkF m 114 (lt38 x p1 b989 v1017 v1019) [(.int (2 : Int32)), (.ref b989), (.int v1057)]) _
              refine X1057.iaload hx (j := (2 : Int32)) (v := (.int v1062)) Ar1061.1 (State.isArrayOf_alike hZ.alike At1061.2.1) At1061.2.2 hin1061 hat1061 (g := (mkF m 114 (lt38 x p1 b989 v1017 v1019) [(.int (2 : Int32)), (.ref b989), (.int v1057)])) rfl rfl (hb hby d11_114) _ ?_
              show Sp p e below T1057 (mkF m 115 (lt38 x p1 b989 v1017 v1019) [(.int v1062), (.int v1057)]) _
              exact kt
            by_cases hc1065 : v1057 = v1062
            · rw [own_eqT hc1065] at hf1063
              have Bz := EB.drop B1057
              obtain ⟨rfl, rfl⟩ := own_ret hf1063
              obtain ⟨fs, hr, hrun, hended, hW, hsame⟩ := X1057.leave (v := some (.int (1 : Int32))) (fun h => by rw [Bd.returns] at h; cases h) (BodyLoose.notSynchronized Bd)
              refine hno ⟨_, _, pre1064 _ ?_, hrun, hended, _, _, rfl, ?_, ⟨_, rfl⟩, hW, hsame.mono (by decide) (by decide)⟩
              · show Sp p e below T1057 (mkF m 115 (lt38 x p1 b989 v1017 v1019) [(.int v1062), (.int v1057)]) _
                refine XS.icmpNo X1057.here hx rfl (hb hby d11_115) rfl (teq hc1065).2 ?_
                show Sp p e below T1057 (mkF m 118 (lt38 x p1 b989 v1017 v1019) []) _
                refine XS.iconst X1057.here hx rfl (hb hby d11_118) ?_
                show Sp p e below T1057 (mkF m 119 (lt38 x p1 b989 v1017 v1019) [(.int (1 : Int32))]) _
                refine XS.goto X1057.here hx rfl (pc0 := 119) (pc' := 123) rfl (hb hby d11_119) (by decide) (by decide) ?_
                show Sp p e below T1057 (mkF m 123 (lt38 x p1 b989 v1017 v1019) [(.int (1 : Int32))]) _
                exact retN X1057 hx (t := .boolean) Bd.returns (by simp) (hb hby d11_123) hr
              · show Q11 Z n0 false x A K S0 nc _ _ _ T1057.heap _
                exact ⟨rfl, N1057, O1057, Bz⟩
            · rw [own_eqF hc1065] at hf1063
              have Bz := EB.drop B1057
              obtain ⟨rfl, rfl⟩ := own_ret hf1063
              obtain ⟨fs, hr, hrun, hended, hW, hsame⟩ := X1057.leave (v := some (.int (0 : Int32))) (fun h => by rw [Bd.returns] at h; cases h) (BodyLoose.notSynchronized Bd)
              refine hno ⟨_, _, pre1064 _ ?_, hrun, hended, _, _, rfl, ?_, ⟨_, rfl⟩, hW, hsame.mono (by decide) (by decide)⟩
              · show Sp p e below T1057 (mkF m 115 (lt38 x p1 b989 v1017 v1019) [(.int v1062), (.int v1057)]) _
                refine XS.icmpYes X1057.here hx rfl (pc0 := 115) (pc' := 122) rfl (hb hby d11_115) rfl (feq hc1065).2 (by decide) (by decide) ?_
                show Sp p e below T1057 (mkF m 122 (lt38 x p1 b989 v1017 v1019) []) _
                refine XS.iconst X1057.here hx rfl (hb hby d11_122) ?_
                show Sp p e below T1057 (mkF m 123 (lt38 x p1 b989 v1017 v1019) [(.int (0 : Int32))]) _
                exact retN X1057 hx (t := .boolean) Bd.returns (by simp) (hb hby d11_123) hr
              · show Q11 Z n0 false x A K S0 nc _ _ _ T1057.heap _
                exact ⟨rfl, N1057, O1057, Bz⟩
        · rw [own_eqF hc1054] at hf1052
          have Bz := EB.drop B1046
          obtain ⟨rfl, rfl⟩ := own_ret hf1052
          obtain ⟨fs, hr, hrun, hended, hW, hsame⟩ := X1046.leave (v := some (.int (0 : Int32))) (fun h => by rw [Bd.returns] at h; cases h) (BodyLoose.notSynchronized Bd)
          refine hno ⟨_, _, pre1053 _ ?_, hrun, hended, _, _, rfl, ?_, ⟨_, rfl⟩, hW, hsame.mono (by decide) (by decide)⟩
          · show Sp p e below T1046 (mkF m 96 (lt38 x p1 b989 v1017 v1019) [(.int v1051), (.int v1046)]) _
            refine XS.icmpYes X1046.here hx rfl (pc0 := 96) (pc' := 122) rfl (hb hby d11_96) rfl (feq hc1054).2 (by decide) (by decide) ?_
            show Sp p e below T1046 (mkF m 122 (lt38 x p1 b989 v1017 v1019) []) _
            refine XS.iconst X1046.here hx rfl (hb hby d11_122) ?_
            show Sp p e below T1046 (mkF m 123 (lt38 x p1 b989 v1017 v1019) [(.int (0 : Int32))]) _
            exact retN X1046 hx (t := .boolean) Bd.returns (by simp) (hb hby d11_123) hr
          · show Q11 Z n0 false x A K S0 nc _ _ _ T1046.heap _
            exact ⟨rfl, N1046, O1046, Bz⟩
    · rw [own_ltF hc1026] at hf1022
      obtain ⟨v1066, M1066, hc1066, hf1067⟩ := own_bnd hf1022
      clear hf1022
      obtain ⟨cq1066, kq1066, q1066a, q1066b, q1066c⟩ := isOf hZ rfl B1021.exa
      obtain ⟨_, _, ⟨T1066, L1066, k1066, n1066⟩, -, X1066, ⟨Lc1066, hQ1066, l1066, y1066, z1066⟩, st1066⟩ := X1021.virtualBack hx (y := Y60) (z := Y60) hown (mvT hZ (hw _ (tk 92 rfl))) (mvT hZ (hw _ (tk 93 rfl))) (notFace_of_selects (args := #[]) (mvT hZ (hw _ (tk 95 rfl)))) (mvT hZ (hw _ (tk 95 rfl))) (mvT hZ (hw _ (tk 94 rfl))) (by decide) (backOf (W := 0) (rm14 l Z a0 hw [] hSl true x (upA A b989) (upA K k989) S0 nc M1021 v1019 v1066 M1066 T1021.heap n0 O1021 B1021 hc1066) hZ (hw _ (tk 96 rfl)) (hw _ (tk 2 rfl)) (by decide) (by decide)) q1066a q1066c (g := (mkF m 71 (lt38 x p1 b989 v1017 v1019) [(.int v1019), (.ref x)])) rfl (by rw [hml]; rfl) (Steps.refl _) (argsL := [(.int v1019)]) (rest := []) (lenOf pd_12 rfl) rfl (by show 2 * 0 + _ ≤ _; exact Nat.le_of_eq rfl) (hb hby d11_71) (fun _ _ => ⟨rfl, rfl, (by decide : 1 + 0 ≤ _), (by decide : 3 + 0 ≤ _)⟩)
      dsimp only [Pt.U, Pt.locs, Pt.cells, Pt.slots] at X1066 l1066 y1066 z1066 st1066 hQ1066
      rw [l1066, y1066, z1066] at X1066
      obtain ⟨rv1066, N1066q, O1066, B1066⟩ := hQ1066
      subst rv1066
      have N1066 := Fr.app N1021 N1066q
      obtain ⟨g1068, hf1069⟩ := own_gd hf1067
      clear hf1067
      obtain ⟨v1071, d_v1071, hf1072⟩ := own_nai hf1069
      clear hf1069
      obtain ⟨cl1070, Ar1070, hin1070, hat1070⟩ := B1066.get 13 (Or.inr (Or.inl ⟨rfl, rfl⟩)) g1068 d_v1071
      have At1070 : Arr Z T1066.heap b989 cl1070 .int := Ar1070
      have pre1073 : Cm p e below E0 (T1066.setTop (mkF m 77 (lt38 x p1 b989 v1017 v1019) [(.int v1071), (.int v1066)])) := fun t kt => by
        refine pre1025 t ?_
        show Sp p e below T1021 (mkF m 65 (lt38 x p1 b989 v1017 v1019) [(.int (1 : Int32)), (.int v1017)]) _
        refine XS.icmpNo X1021.here hx rfl (hb hby d11_65) rfl (flt hc1026).1 ?_
        show Sp p e below T1021 (mkF m 68 (lt38 x p1 b989 v1017 v1019) []) _
        refine XS.aloadN X1021.here hx rfl (hb hby d11_68) rfl rfl ?_
        refine XS.iload X1021.here hx rfl (hb hby d11_69) rfl ?_
        show Sp p e below T1021 (mkF m 71 (lt38 x p1 b989 v1017 v1019) [(.int v1019), (.ref x)]) _
        refine st1066.trans ?_
        show Sp p e below T1066 (mkF m 74 (lt38 x p1 b989 v1017 v1019) [(.int v1066)]) _
        refine XS.aloadN X1066.here hx rfl (hb hby d11_74) rfl rfl ?_
        refine XS.iconst X1066.here hx rfl (hb hby d11_75) ?_
        show Sp p e below T1066 (mkF m 76 (lt38 x p1 b989 v1017 v1019) [(.int (0 : Int32)), (.ref b989), (.int v1066)]) _
        refine X1066.iaload hx (j := (0 : Int32)) (v := (.int v1071)) Ar1070.1 (State.isArrayOf_alike hZ.alike At1070.2.1) At1070.2.2 hin1070 hat1070 (g := (mkF m 76 (lt38 x p1 b989 v1017 v1019) [(.int (0 : Int32)), (.ref b989), (.int v1066)])) rfl rfl (hb hby d11_76) _ ?_
        show Sp p e below T1066 (mkF m 77 (lt38 x p1 b989 v1017 v1019) [(.int v1071), (.int v1066)]) _
        exact kt
      by_cases hc1074 : v1066 = v1071
      · rw [own_eqT hc1074] at hf1072
        have pre1075 : Cm p e below E0 (T1066.setTop (mkF m 82 (lt38 x p1 b989 v1017 v1019) [(.int (2 : Int32)), (.int v1017)])) := fun t kt => by
          refine pre1073 t ?_
          show Sp p e below T1066 (mkF m 77 (lt38 x p1 b989 v1017 v1019) [(.int v1071), (.int v1066)]) _
          refine XS.icmpNo X1066.here hx rfl (hb hby d11_77) rfl (teq hc1074).2 ?_
          show Sp p e below T1066 (mkF m 80 (lt38 x p1 b989 v1017 v1019) []) _
          refine XS.iloadN X1066.here hx rfl (hb hby d11_80) rfl ?_
          refine XS.iconst X1066.here hx rfl (hb hby d11_81) ?_
          show Sp p e below T1066 (mkF m 82 (lt38 x p1 b989 v1017 v1019) [(.int (2 : Int32)), (.int v1017)]) _
          exact kt
        by_cases hc1076 : v1017 < (2 : Int32)
        · rw [own_ltT hc1076] at hf1072
          have pre1077 : Cm p e below E0 (T1066.setTop (mkF m 101 (lt38 x p1 b989 v1017 v1019) [(.int (3 : Int32)), (.int v1017)])) := fun t kt => by
            refine pre1075 t ?_
            show Sp p e below T1066 (mkF m 82 (lt38 x p1 b989 v1017 v1019) [(.int (2 : Int32)), (.int v1017)]) _
            refine XS.icmpYes X1066.here hx rfl (pc0 := 82) (pc' := 99) rfl (hb hby d11_82) rfl (tlt hc1076).1 (by decide) (by decide) ?_
            show Sp p e below T1066 (mkF m 99 (lt38 x p1 b989 v1017 v1019) []) _
            refine XS.iloadN X1066.here hx rfl (hb hby d11_99) rfl ?_
            refine XS.iconst X1066.here hx rfl (hb hby d11_100) ?_
            show Sp p e below T1066 (mkF m 101 (lt38 x p1 b989 v1017 v1019) [(.int (3 : Int32)), (.int v1017)]) _
            exact kt
          by_cases hc1078 : v1017 < (3 : Int32)
          · rw [own_ltT hc1078] at hf1072
            have Bz := EB.drop B1066
            obtain ⟨rfl, rfl⟩ := own_ret hf1072
            obtain ⟨fs, hr, hrun, hended, hW, hsame⟩ := X1066.leave (v := some (.int (1 : Int32))) (fun h => by rw [Bd.returns] at h; cases h) (BodyLoose.notSynchronized Bd)
            refine hno ⟨_, _, pre1077 _ ?_, hrun, hended, _, _, rfl, ?_, ⟨_, rfl⟩, hW, hsame.mono (by decide) (by decide)⟩
            · show Sp p e below T1066 (mkF m 101 (lt38 x p1 b989 v1017 v1019) [(.int (3 : Int32)), (.int v1017)]) _
              refine XS.icmpYes X1066.here hx rfl (pc0 := 101) (pc' := 118) rfl (hb hby d11_101) rfl (tlt hc1078).1 (by decide) (by decide) ?_
              show Sp p e below T1066 (mkF m 118 (lt38 x p1 b989 v1017 v1019) []) _
              refine XS.iconst X1066.here hx rfl (hb hby d11_118) ?_
              show Sp p e below T1066 (mkF m 119 (lt38 x p1 b989 v1017 v1019) [(.int (1 : Int32))]) _
              refine XS.goto X1066.here hx rfl (pc0 := 119) (pc' := 123) rfl (hb hby d11_119) (by decide) (by decide) ?_
              show Sp p e below T1066 (mkF m 123 (lt38 x p1 b989 v1017 v1019) [(.int (1 : Int32))]) _
              exact retN X1066 hx (t := .boolean) Bd.returns (by simp) (hb hby d11_123) hr
            · show Q11 Z n0 false x A K S0 nc _ _ _ T1066.heap _
              exact ⟨rfl, N1066, O1066, Bz⟩
          · rw [own_ltF hc1078] at hf1072
            obtain ⟨v1079, M1079, hc1079, hf1080⟩ := own_bnd hf1072
            clear hf1072
            obtain ⟨cq1079, kq1079, q1079a, q1079b, q1079c⟩ := isOf hZ rfl B1066.exa
            obtain ⟨_, _, ⟨T1079, L1079, k1079, n1079⟩, -, X1079, ⟨Lc1079, hQ1079, l1079, y1079, z1079⟩, st1079⟩ := X1066.virtualBack hx (y := Y60) (z := Y60) hown (mvT hZ (hw _ (tk 92 rfl))) (mvT hZ (hw _ (tk 93 rfl))) (notFace_of_selects (args := #[]) (mvT hZ (hw _ (tk 95 rfl)))) (mvT hZ (hw _ (tk 95 rfl))) (mvT hZ (hw _ (tk 94 rfl))) (by decide) (backOf (W := 0) (rm14 l Z a0 hw [] hSl true x (upA A b989) (upA K k989) S0 nc M1066 (v1019 + (2 : Int32)) v1079 M1079 T1066.heap n0 O1066 B1066 hc1079) hZ (hw _ (tk 96 rfl)) (hw _ (tk 2 rfl)) (by decide) (by decide)) q1079a q1079c (g := (mkF m 109 (lt38 x p1 b989 v1017 v1019) [(.int (v1019 + (2 : Int32))), (.ref x)])) rfl (by rw [hml]; rfl) (Steps.refl _) (argsL := [(.int (v1019 + (2 : Int32)))]) (rest := []) (lenOf pd_12 rfl) rfl (by show 2 * 0 + _ ≤ _; exact Nat.le_of_eq rfl) (hb hby d11_109) (fun _ _ => ⟨rfl, rfl, (by decide : 1 + 0 ≤ _), (by decide : 3 + 0 ≤ _)⟩)
            dsimp only [Pt.U, Pt.locs, Pt.cells, Pt.slots] at X1079 l1079 y1079 z1079 st1079 hQ1079
            rw [l1079, y1079, z1079] at X1079
            obtain ⟨rv1079, N1079q, O1079, B1079⟩ := hQ1079
            subst rv1079
            have N1079 := Fr.app N1066 N1079q
            obtain ⟨g1081, hf1082⟩ := own_gd hf1080
            clear hf1080
            obtain ⟨v1084, d_v1084, hf1085⟩ := own_nai hf1082
            clear hf1082
            obtain ⟨cl1083, Ar1083, hin1083, hat1083⟩ := B1079.get 13 (Or.inr (Or.inl ⟨rfl, rfl⟩)) g1081 d_v1084
            have At1083 : Arr Z T1079.heap b989 cl1083 .int := Ar1083
            have pre1086 : Cm p e below E0 (T1079.setTop (mkF m 115 (lt38 x p1 b989 v1017 v1019) [(.int v1084), (.int v1079)])) := fun t kt => by
              refine pre1077 t ?_
              show Sp p e below T1066 (mkF m 101 (lt38 x p1 b989 v1017 v1019) [(.int (3 : Int32)), (.int v1017)]) _
              refine XS.icmpNo X1066.here hx rfl (hb hby d11_101) rfl (flt hc1078).1 ?_
              show Sp p e below T1066 (mkF m 104 (lt38 x p1 b989 v1017 v1019) []) _
              refine XS.aloadN X1066.here hx rfl (hb hby d11_104) rfl rfl ?_
              refine XS.iload X1066.here hx rfl (hb hby d11_105) rfl ?_
              show Sp p e below T1066 (mkF m 107 (lt38 x p1 b989 v1017 v1019) [(.int v1019), (.ref x)]) _
              refine XS.iconst X1066.here hx rfl (hb hby d11_107) ?_
              refine XS.iadd X1066.here hx rfl (hb hby d11_108) rfl ?_
              show Sp p e below T1066 (mkF m 109 (lt38 x p1 b989 v1017 v1019) [(.int (v1019 + (2 : Int32))), (.ref x)]) _
              refine st1079.trans ?_
              show Sp p e below T1079 (mkF m 112 (lt38 x p1 b989 v1017 v1019) [(.int v1079)]) _
              refine XS.aloadN X1079.here hx rfl (hb hby d11_112) rfl rfl ?_
              refine XS.iconst X1079.here hx rfl (hb hby d11_113) ?_
              show Sp p e below T1079 (mkF m 114 (lt38 x p1 b989 v1017 v1019) [(.int (2 : Int32)), (.ref b989), (.int v1079)]) _
              refine X1079.iaload hx (j := (2 : Int32)) (v := (.int v1084)) Ar1083.1 (State.isArrayOf_alike hZ.alike At1083.2.1) At1083.2.2 hin1083 hat1083 (g := (mkF m 114 (lt38 x p1 b989 v1017 v1019) [(.int (2 : Int32)), (.ref b989), (.int v1079)])) rfl rfl (hb hby d11_114) _ ?_
              show Sp p e below T1079 (mkF m 115 (lt38 x p1 b989 v1017 v1019) [(.int v1084), (.int v1079)]) _
              exact kt
            by_cases hc1087 : v1079 = v1084
            · rw [own_eqT hc1087] at hf1085
              have Bz := EB.drop B1079
              obtain ⟨rfl, rfl⟩ := own_ret hf1085
              obtain ⟨fs, hr, hrun, hended, hW, hsame⟩ := X1079.leave (v := some (.int (1 : Int32))) (fun h => by rw [Bd.returns] at h; cases h) (BodyLoose.notSynchronized Bd)
              refine hno ⟨_, _, pre1086 _ ?_, hrun, hended, _, _, rfl, ?_, ⟨_, rfl⟩, hW, hsame.mono (by decide) (by decide)⟩
              · show Sp p e below T1079 (mkF m 115 (lt38 x p1 b989 v1017 v1019) [(.int v1084), (.int v1079)]) _
                refine XS.icmpNo X1079.here hx rfl (hb hby d11_115) rfl (teq hc1087).2 ?_
                show Sp p e below T1079 (mkF m 118 (lt38 x p1 b989 v1017 v1019) []) _
                refine XS.iconst X1079.here hx rfl (hb hby d11_118) ?_
                show Sp p e below T1079 (mkF m 119 (lt38 x p1 b989 v1017 v1019) [(.int (1 : Int32))]) _
                refine XS.goto X1079.here hx rfl (pc0 := 119) (pc' := 123) rfl (hb hby d11_119) (by decide) (by decide) ?_
                show Sp p e below T1079 (mkF m 123 (lt38 x p1 b989 v1017 v1019) [(.int (1 : Int32))]) _
                exact retN X1079 hx (t := .boolean) Bd.returns (by simp) (hb hby d11_123) hr
              · show Q11 Z n0 false x A K S0 nc _ _ _ T1079.heap _
                exact ⟨rfl, N1079, O1079, Bz⟩
            · rw [own_eqF hc1087] at hf1085
              have Bz := EB.drop B1079
              obtain ⟨rfl, rfl⟩ := own_ret hf1085
              obtain ⟨fs, hr, hrun, hended, hW, hsame⟩ := X1079.leave (v := some (.int (0 : Int32))) (fun h => by rw [Bd.returns] at h; cases h) (BodyLoose.notSynchronized Bd)
              refine hno ⟨_, _, pre1086 _ ?_, hrun, hended, _, _, rfl, ?_, ⟨_, rfl⟩, hW, hsame.mono (by decide) (by decide)⟩
              · show Sp p e below T1079 (mkF m 115 (lt38 x p1 b989 v1017 v1019) [(.int v1084), (.int v1079)]) _
                refine XS.icmpYes X1079.here hx rfl (pc0 := 115) (pc' := 122) rfl (hb hby d11_115) rfl (feq hc1087).2 (by decide) (by decide) ?_
                show Sp p e below T1079 (mkF m 122 (lt38 x p1 b989 v1017 v1019) []) _
                refine XS.iconst X1079.here hx rfl (hb hby d11_122) ?_
                show Sp p e below T1079 (mkF m 123 (lt38 x p1 b989 v1017 v1019) [(.int (0 : Int32))]) _
                exact retN X1079 hx (t := .boolean) Bd.returns (by simp) (hb hby d11_123) hr
              · show Q11 Z n0 false x A K S0 nc _ _ _ T1079.heap _
                exact ⟨rfl, N1079, O1079, Bz⟩
        · rw [own_ltF hc1076] at hf1072
          obtain ⟨v1088, M1088, hc1088, hf1089⟩ := own_bnd hf1072
          clear hf1072
          obtain ⟨cq1088, kq1088, q1088a, q1088b, q1088c⟩ := isOf hZ rfl B1066.exa
          obtain ⟨_, _, ⟨T1088, L1088, k1088, n1088⟩, -, X1088, ⟨Lc1088, hQ1088, l1088, y1088, z1088⟩, st1088⟩ := X1066.virtualBack hx (y := Y60) (z := Y60) hown (mvT hZ (hw _ (tk 92 rfl))) (mvT hZ (hw _ (tk 93 rfl))) (notFace_of_selects (args := #[]) (mvT hZ (hw _ (tk 95 rfl)))) (mvT hZ (hw _ (tk 95 rfl))) (mvT hZ (hw _ (tk 94 rfl))) (by decide) (backOf (W := 0) (rm14 l Z a0 hw [] hSl true x (upA A b989) (upA K k989) S0 nc M1066 (v1019 + (1 : Int32)) v1088 M1088 T1066.heap n0 O1066 B1066 hc1088) hZ (hw _ (tk 96 rfl)) (hw _ (tk 2 rfl)) (by decide) (by decide)) q1088a q1088c (g := (mkF m 90 (lt38 x p1 b989 v1017 v1019) [(.int (v1019 + (1 : Int32))), (.ref x)])) rfl (by rw [hml]; rfl) (Steps.refl _) (argsL := [(.int (v1019 + (1 : Int32)))]) (rest := []) (lenOf pd_12 rfl) rfl (by show 2 * 0 + _ ≤ _; exact Nat.le_of_eq rfl) (hb hby d11_90) (fun _ _ => ⟨rfl, rfl, (by decide : 1 + 0 ≤ _), (by decide : 3 + 0 ≤ _)⟩)
          dsimp only [Pt.U, Pt.locs, Pt.cells, Pt.slots] at X1088 l1088 y1088 z1088 st1088 hQ1088
          rw [l1088, y1088, z1088] at X1088
          obtain ⟨rv1088, N1088q, O1088, B1088⟩ := hQ1088
          subst rv1088
          have N1088 := Fr.app N1066 N1088q
          obtain ⟨g1090, hf1091⟩ := own_gd hf1089
          clear hf1089
          obtain ⟨v1093, d_v1093, hf1094⟩ := own_nai hf1091
          clear hf1091
          obtain ⟨cl1092, Ar1092, hin1092, hat1092⟩ := B1088.get 13 (Or.inr (Or.inl ⟨rfl, rfl⟩)) g1090 d_v1093
          have At1092 : Arr Z T1088.heap b989 cl1092 .int := Ar1092
          have pre1095 : Cm p e below E0 (T1088.setTop (mkF m 96 (lt38 x p1 b989 v1017 v1019) [(.int v1093), (.int v1088)])) := fun t kt => by
            refine pre1075 t ?_
            show Sp p e below T1066 (mkF m 82 (lt38 x p1 b989 v1017 v1019) [(.int (2 : Int32)), (.int v1017)]) _
            refine XS.icmpNo X1066.here hx rfl (hb hby d11_82) rfl (flt hc1076).1 ?_
            show Sp p e below T1066 (mkF m 85 (lt38 x p1 b989 v1017 v1019) []) _
            refine XS.aloadN X1066.here hx rfl (hb hby d11_85) rfl rfl ?_
            refine XS.iload X1066.here hx rfl (hb hby d11_86) rfl ?_
            show Sp p e below T1066 (mkF m 88 (lt38 x p1 b989 v1017 v1019) [(.int v1019), (.ref x)]) _
            refine XS.iconst X1066.here hx rfl (hb hby d11_88) ?_
            refine XS.iadd X1066.here hx rfl (hb hby d11_89) rfl ?_
            show Sp p e below T1066 (mkF m 90 (lt38 x p1 b989 v1017 v1019) [(.int (v1019 + (1 : Int32))), (.ref x)]) _
            refine st1088.trans ?_
            show Sp p e below T1088 (mkF m 93 (lt38 x p1 b989 v1017 v1019) [(.int v1088)]) _
            refine XS.aloadN X1088.here hx rfl (hb hby d11_93) rfl rfl ?_
            refine XS.iconst X1088.here hx rfl (hb hby d11_94) ?_
            show Sp p e below T1088 (mkF m 95 (lt38 x p1 b989 v1017 v1019) [(.int (1 : Int32)), (.ref b989), (.int v1088)]) _
            refine X1088.iaload hx (j := (1 : Int32)) (v := (.int v1093)) Ar1092.1 (State.isArrayOf_alike hZ.alike At1092.2.1) At1092.2.2 hin1092 hat1092 (g := (mkF m 95 (lt38 x p1 b989 v1017 v1019) [(.int (1 : Int32)), (.ref b989), (.int v1088)])) rfl rfl (hb hby d11_95) _ ?_
            show Sp p e below T1088 (mkF m 96 (lt38 x p1 b989 v1017 v1019) [(.int v1093), (.int v1088)]) _
            exact kt
          by_cases hc1096 : v1088 = v1093
          · rw [own_eqT hc1096] at hf1094
            have pre1097 : Cm p e below E0 (T1088.setTop (mkF m 101 (lt38 x p1 b989 v1017 v1019) [(.int (3 : Int32)), (.int v1017)])) := fun t kt => by
              refine pre1095 t ?_
              show Sp p e below T1088 (mkF m 96 (lt38 x p1 b989 v1017 v1019) [(.int v1093), (.int v1088)]) _
              refine XS.icmpNo X1088.here hx rfl (hb hby d11_96) rfl (teq hc1096).2 ?_
              show Sp p e below T1088 (mkF m 99 (lt38 x p1 b989 v1017 v1019) []) _
              refine XS.iloadN X1088.here hx rfl (hb hby d11_99) rfl ?_
              refine XS.iconst X1088.here hx rfl (hb hby d11_100) ?_
              show Sp p e below T1088 (mkF m 101 (lt38 x p1 b989 v1017 v1019) [(.int (3 : Int32)), (.int v1017)]) _
              exact kt
            by_cases hc1098 : v1017 < (3 : Int32)
            · rw [own_ltT hc1098] at hf1094
              have Bz := EB.drop B1088
              obtain ⟨rfl, rfl⟩ := own_ret hf1094
              obtain ⟨fs, hr, hrun, hended, hW, hsame⟩ := X1088.leave (v := some (.int (1 : Int32))) (fun h => by rw [Bd.returns] at h; cases h) (BodyLoose.notSynchronized Bd)
              refine hno ⟨_, _, pre1097 _ ?_, hrun, hended, _, _, rfl, ?_, ⟨_, rfl⟩, hW, hsame.mono (by decide) (by decide)⟩
              · show Sp p e below T1088 (mkF m 101 (lt38 x p1 b989 v1017 v1019) [(.int (3 : Int32)), (.int v1017)]) _
                refine XS.icmpYes X1088.here hx rfl (pc0 := 101) (pc' := 118) rfl (hb hby d11_101) rfl (tlt hc1098).1 (by decide) (by decide) ?_
                show Sp p e below T1088 (mkF m 118 (lt38 x p1 b989 v1017 v1019) []) _
                refine XS.iconst X1088.here hx rfl (hb hby d11_118) ?_
                show Sp p e below T1088 (mkF m 119 (lt38 x p1 b989 v1017 v1019) [(.int (1 : Int32))]) _
                refine XS.goto X1088.here hx rfl (pc0 := 119) (pc' := 123) rfl (hb hby d11_119) (by decide) (by decide) ?_
                show Sp p e below T1088 (mkF m 123 (lt38 x p1 b989 v1017 v1019) [(.int (1 : Int32))]) _
                exact retN X1088 hx (t := .boolean) Bd.returns (by simp) (hb hby d11_123) hr
              · show Q11 Z n0 false x A K S0 nc _ _ _ T1088.heap _
                exact ⟨rfl, N1088, O1088, Bz⟩
            · rw [own_ltF hc1098] at hf1094
              obtain ⟨v1099, M1099, hc1099, hf1100⟩ := own_bnd hf1094
              clear hf1094
              obtain ⟨cq1099, kq1099, q1099a, q1099b, q1099c⟩ := isOf hZ rfl B1088.exa
              obtain ⟨_, _, ⟨T1099, L1099, k1099, n1099⟩, -, X1099, ⟨Lc1099, hQ1099, l1099, y1099, z1099⟩, st1099⟩ := X1088.virtualBack hx (y := Y60) (z := Y60) hown (mvT hZ (hw _ (tk 92 rfl))) (mvT hZ (hw _ (tk 93 rfl))) (notFace_of_selects (args := #[]) (mvT hZ (hw _ (tk 95 rfl)))) (mvT hZ (hw _ (tk 95 rfl))) (mvT hZ (hw _ (tk 94 rfl))) (by decide) (backOf (W := 0) (rm14 l Z a0 hw [] hSl true x (upA A b989) (upA K k989) S0 nc M1088 (v1019 + (2 : Int32)) v1099 M1099 T1088.heap n0 O1088 B1088 hc1099) hZ (hw _ (tk 96 rfl)) (hw _ (tk 2 rfl)) (by decide) (by decide)) q1099a q1099c (g := (mkF m 109 (lt38 x p1 b989 v1017 v1019) [(.int (v1019 + (2 : Int32))), (.ref x)])) rfl (by rw [hml]; rfl) (Steps.refl _) (argsL := [(.int (v1019 + (2 : Int32)))]) (rest := []) (lenOf pd_12 rfl) rfl (by show 2 * 0 + _ ≤ _; exact Nat.le_of_eq rfl) (hb hby d11_109) (fun _ _ => ⟨rfl, rfl, (by decide : 1 + 0 ≤ _), (by decide : 3 + 0 ≤ _)⟩)
              dsimp only [Pt.U, Pt.locs, Pt.cells, Pt.slots] at X1099 l1099 y1099 z1099 st1099 hQ1099
              rw [l1099, y1099, z1099] at X1099
              obtain ⟨rv1099, N1099q, O1099, B1099⟩ := hQ1099
              subst rv1099
              have N1099 := Fr.app N1088 N1099q
              obtain ⟨g1101, hf1102⟩ := own_gd hf1100
              clear hf1100
              obtain ⟨v1104, d_v1104, hf1105⟩ := own_nai hf1102
              clear hf1102
              obtain ⟨cl1103, Ar1103, hin1103, hat1103⟩ := B1099.get 13 (Or.inr (Or.inl ⟨rfl, rfl⟩)) g1101 d_v1104
              have At1103 : Arr Z T1099.heap b989 cl1103 .int := Ar1103
              have pre1106 : Cm p e below E0 (T1099.setTop (mkF m 115 (lt38 x p1 b989 v1017 v1019) [(.int v1104), (.int v1099)])) := fun t kt => by
                refine pre1097 t ?_
                show Sp p e below T1088 (mkF m 101 (lt38 x p1 b989 v1017 v1019) [(.int (3 : Int32)), (.int v1017)]) _
                refine XS.icmpNo X1088.here hx rfl (hb hby d11_101) rfl (flt hc1098).1 ?_
                show Sp p e below T1088 (mkF m 104 (lt38 x p1 b989 v1017 v1019) []) _
                refine XS.aloadN X1088.here hx rfl (hb hby d11_104) rfl rfl ?_
                refine XS.iload X1088.here hx rfl (hb hby d11_105) rfl ?_
                show Sp p e below T1088 (mkF m 107 (lt38 x p1 b989 v1017 v1019) [(.int v1019), (.ref x)]) _
                refine XS.iconst X1088.here hx rfl (hb hby d11_107) ?_
                refine XS.iadd X1088.here hx rfl (hb hby d11_108) rfl ?_
                show Sp p e below T1088 (mkF m 109 (lt38 x p1 b989 v1017 v1019) [(.int (v1019 + (2 : Int32))), (.ref x)]) _
                refine st1099.trans ?_
                show Sp p e below T1099 (mkF m 112 (lt38 x p1 b989 v1017 v1019) [(.int v1099)]) _
                refine XS.aloadN X1099.here hx rfl (hb hby d11_112) rfl rfl ?_
                refine XS.iconst X1099.here hx rfl (hb hby d11_113) ?_
                show Sp p e below T1099 (mkF m 114 (lt38 x p1 b989 v1017 v1019) [(.int (2 : Int32)), (.ref b989), (.int v1099)]) _
                refine X1099.iaload hx (j := (2 : Int32)) (v := (.int v1104)) Ar1103.1 (State.isArrayOf_alike hZ.alike At1103.2.1) At1103.2.2 hin1103 hat1103 (g := (mkF m 114 (lt38 x p1 b989 v1017 v1019) [(.int (2 : Int32)), (.ref b989), (.int v1099)])) rfl rfl (hb hby d11_114) _ ?_
                show Sp p e below T1099 (mkF m 115 (lt38 x p1 b989 v1017 v1019) [(.int v1104), (.int v1099)]) _
                exact kt
              by_cases hc1107 : v1099 = v1104
              · rw [own_eqT hc1107] at hf1105
                have Bz := EB.drop B1099
                obtain ⟨rfl, rfl⟩ := own_ret hf1105
                obtain ⟨fs, hr, hrun, hended, hW, hsame⟩ := X1099.leave (v := some (.int (1 : Int32))) (fun h => by rw [Bd.returns] at h; cases h) (BodyLoose.notSynchronized Bd)
                refine hno ⟨_, _, pre1106 _ ?_, hrun, hended, _, _, rfl, ?_, ⟨_, rfl⟩, hW, hsame.mono (by decide) (by decide)⟩
                · show Sp p e below T1099 (mkF m 115 (lt38 x p1 b989 v1017 v1019) [(.int v1104), (.int v1099)]) _
                  refine XS.icmpNo X1099.here hx rfl (hb hby d11_115) rfl (teq hc1107).2 ?_
                  show Sp p e below T1099 (mkF m 118 (lt38 x p1 b989 v1017 v1019) []) _
                  refine XS.iconst X1099.here hx rfl (hb hby d11_118) ?_
                  show Sp p e below T1099 (mkF m 119 (lt38 x p1 b989 v1017 v1019) [(.int (1 : Int32))]) _
                  refine XS.goto X1099.here hx rfl (pc0 := 119) (pc' := 123) rfl (hb hby d11_119) (by decide) (by decide) ?_
                  show Sp p e below T1099 (mkF m 123 (lt38 x p1 b989 v1017 v1019) [(.int (1 : Int32))]) _
                  exact retN X1099 hx (t := .boolean) Bd.returns (by simp) (hb hby d11_123) hr
                · show Q11 Z n0 false x A K S0 nc _ _ _ T1099.heap _
                  exact ⟨rfl, N1099, O1099, Bz⟩
              · rw [own_eqF hc1107] at hf1105
                have Bz := EB.drop B1099
                obtain ⟨rfl, rfl⟩ := own_ret hf1105
                obtain ⟨fs, hr, hrun, hended, hW, hsame⟩ := X1099.leave (v := some (.int (0 : Int32))) (fun h => by rw [Bd.returns] at h; cases h) (BodyLoose.notSynchronized Bd)
                refine hno ⟨_, _, pre1106 _ ?_, hrun, hended, _, _, rfl, ?_, ⟨_, rfl⟩, hW, hsame.mono (by decide) (by decide)⟩
                · show Sp p e below T1099 (mkF m 115 (lt38 x p1 b989 v1017 v1019) [(.int v1104), (.int v1099)]) _
                  refine XS.icmpYes X1099.here hx rfl (pc0 := 115) (pc' := 122) rfl (hb hby d11_115) rfl (feq hc1107).2 (by decide) (by decide) ?_
                  show Sp p e below T1099 (mkF m 122 (lt38 x p1 b989 v1017 v1019) []) _
                  refine XS.iconst X1099.here hx rfl (hb hby d11_122) ?_
                  show Sp p e below T1099 (mkF m 123 (lt38 x p1 b989 v1017 v1019) [(.int (0 : Int32))]) _
                  exact retN X1099 hx (t := .boolean) Bd.returns (by simp) (hb hby d11_123) hr
                · show Q11 Z n0 false x A K S0 nc _ _ _ T1099.heap _
                  exact ⟨rfl, N1099, O1099, Bz⟩
          · rw [own_eqF hc1096] at hf1094
            have Bz := EB.drop B1088
            obtain ⟨rfl, rfl⟩ := own_ret hf1094
            obtain ⟨fs, hr, hrun, hended, hW, hsame⟩ := X1088.leave (v := some (.int (0 : Int32))) (fun h => by rw [Bd.returns] at h; cases h) (BodyLoose.notSynchronized Bd)
            refine hno ⟨_, _, pre1095 _ ?_, hrun, hended, _, _, rfl, ?_, ⟨_, rfl⟩, hW, hsame.mono (by decide) (by decide)⟩
            · show Sp p e below T1088 (mkF m 96 (lt38 x p1 b989 v1017 v1019) [(.int v1093), (.int v1088)]) _
              refine XS.icmpYes X1088.here hx rfl (pc0 := 96) (pc' := 122) rfl (hb hby d11_96) rfl (feq hc1096).2 (by decide) (by decide) ?_
              show Sp p e below T1088 (mkF m 122 (lt38 x p1 b989 v1017 v1019) []) _
              refine XS.iconst X1088.here hx rfl (hb hby d11_122) ?_
              show Sp p e below T1088 (mkF m 123 (lt38 x p1 b989 v1017 v1019) [(.int (0 : Int32))]) _
              exact retN X1088 hx (t := .boolean) Bd.returns (by simp) (hb hby d11_123) hr
            · show Q11 Z n0 false x A K S0 nc _ _ _ T1088.heap _
              exact ⟨rfl, N1088, O1088, Bz⟩
      · rw [own_eqF hc1074] at hf1072
        have Bz := EB.drop B1066
        obtain ⟨rfl, rfl⟩ := own_ret hf1072
        obtain ⟨fs, hr, hrun, hended, hW, hsame⟩ := X1066.leave (v := some (.int (0 : Int32))) (fun h => by rw [Bd.returns] at h; cases h) (BodyLoose.notSynchronized Bd)
        refine hno ⟨_, _, pre1073 _ ?_, hrun, hended, _, _, rfl, ?_, ⟨_, rfl⟩, hW, hsame.mono (by decide) (by decide)⟩
        · show Sp p e below T1066 (mkF m 77 (lt38 x p1 b989 v1017 v1019) [(.int v1071), (.int v1066)]) _
          refine XS.icmpYes X1066.here hx rfl (pc0 := 77) (pc' := 122) rfl (hb hby d11_77) rfl (feq hc1074).2 (by decide) (by decide) ?_
          show Sp p e below T1066 (mkF m 122 (lt38 x p1 b989 v1017 v1019) []) _
          refine XS.iconst X1066.here hx rfl (hb hby d11_122) ?_
          show Sp p e below T1066 (mkF m 123 (lt38 x p1 b989 v1017 v1019) [(.int (0 : Int32))]) _
          exact retN X1066 hx (t := .boolean) Bd.returns (by simp) (hb hby d11_123) hr
        · show Q11 Z n0 false x A K S0 nc _ _ _ T1066.heap _
          exact ⟨rfl, N1066, O1066, Bz⟩
  · rw [own_eqF hc1024] at hf1022
    have Bz := EB.drop B1021
    obtain ⟨rfl, rfl⟩ := own_ret hf1022
    obtain ⟨fs, hr, hrun, hended, hW, hsame⟩ := X1021.leave (v := some (.int (0 : Int32))) (fun h => by rw [Bd.returns] at h; cases h) (BodyLoose.notSynchronized Bd)
    refine hno ⟨_, _, pre1023 _ ?_, hrun, hended, _, _, rfl, ?_, ⟨_, rfl⟩, hW, hsame.mono (by decide) (by decide)⟩
    · show Sp p e below T1021 (mkF m 58 (lt38 x p1 b989 v1017 v1019) [(.int v1017), (.int (v1021 - v1019))]) _
      refine XS.icmpNo X1021.here hx rfl (hb hby d11_58) rfl (feq hc1024).1 ?_
      show Sp p e below T1021 (mkF m 61 (lt38 x p1 b989 v1017 v1019) []) _
      refine XS.iconst X1021.here hx rfl (hb hby d11_61) ?_
      show Sp p e below T1021 (mkF m 62 (lt38 x p1 b989 v1017 v1019) [(.int (0 : Int32))]) _
      exact retN X1021 hx (t := .boolean) Bd.returns (by simp) (hb hby d11_62) hr
    · show Q11 Z n0 false x A K S0 nc _ _ _ T1021.heap _
      exact ⟨rfl, N1021, O1021, Bz⟩
def f0_83 (p0 : Int32) (p1 : Int32) (p2 : Int32) (p3 : Int32) (p4 : Int32) (M : MM) : Option (Int32 × MM) := bnd (f9 4 M (0 : Int32)) fun v961 M961 => cnd (eqB v961 (0 : Int32)) (bnd (f10 4 M961 (0 : Int32)) fun v971 M971 => bnd (f9 4 M971 (1 : Int32)) fun v973 M973 => cnd (eqB v971 v973) (bnd (f10 4 M973 (1 : Int32)) fun v977 M977 => bnd (f9 4 M977 (2 : Int32)) fun v979 M979 => cnd (eqB v977 v979) (bnd (f10 4 M979 (2 : Int32)) fun v983 M983 => bnd (f9 4 M983 (3 : Int32)) fun v985 M985 => cnd (eqB v983 v985) (bnd (f11 4 M985 (0 : Int32)) fun v1108 M1108 => cnd (eqB v1108 (0 : Int32)) (some (0, M1108)) (bnd (f11 4 M1108 (1 : Int32)) fun v1112 M1112 => cnd (eqB v1112 (0 : Int32)) (some (0, M1112)) (bnd (f11 4 M1112 (2 : Int32)) fun v1116 M1116 => cnd (eqB v1116 (0 : Int32)) (some (0, M1116)) (bnd (f11 4 M1116 (3 : Int32)) fun v1120 M1120 => cnd (eqB v1120 (0 : Int32)) (some (0, M1120)) (some ((1 : Int32), M1120)))))) (some (0, M985))) (some (0, M979))) (some (0, M973))) (some (0, M961))
def f0_66 (p0 : Int32) (p1 : Int32) (p2 : Int32) (p3 : Int32) (p4 : Int32) (M : MM) (al0 : Int32) : Option (Int32 × MM) := bnd (f8 4 M) fun v947 M947 => cnd (eqB (p0 &&& (64 : Int32)) (0 : Int32)) (f0_83 p0 p1 p2 p3 p4 M947) (bnd (f8 4 M947) fun v952 M952 => f0_83 p0 p1 p2 p3 p4 M952)
def f0_39 (p0 : Int32) (p1 : Int32) (p2 : Int32) (p3 : Int32) (p4 : Int32) (M : MM) (al0 : Int32) (al3 : Int32) (al4 : Int32) (al6 : Int32) : Option (Int32 × MM) := bnd (f6 4 M (((p0.toUInt32 >>> ((2 : Int32) &&& 31).toUInt32).toInt32) &&& (3 : Int32)) p3 p4) fun v810 M810 => cnd (eqB (p0 &&& (32 : Int32)) (0 : Int32)) (f0_66 p0 p1 p2 p3 p4 M810 p0) (bnd (f24 4 M810 al6) fun v944 M944 => f0_66 p0 p1 p2 p3 p4 M944 p0)
def f0 (p0 : Int32) (p1 : Int32) (p2 : Int32) (p3 : Int32) (p4 : Int32) : Option (Int32 × MM) := bnd (f6 4 M0 (p0 &&& (3 : Int32)) p1 p2) fun v744 M744 => bnd (f7 4 M744) fun v749 M749 => cnd (eqB (p0 &&& (16 : Int32)) (0 : Int32)) (f0_39 p0 p1 p2 p3 p4 M749 p0 p3 p4 v749) (bnd (f8 4 M749) fun v807 M807 => f0_39 p0 p1 p2 p3 p4 M807 p0 p3 p4 v749)
def tailOK (M : MM) : Bool := match f8 4 M with | none => false | some (_, M4) => !(eqB (ld M4 10 0) 0) && (match f0_83 0 0 0 0 0 M4 with | some (v, _) => eqB v 1 | none => false)
def opN (i : Nat) (M : MM) : Option (Int32 × MM) := match i with | 0 => some (0, M) | i + 1 => if i < 12 then f6 4 M 1 (Int32.ofNat (i / 3)) (Int32.ofNat (i % 3)) else f6 4 M 2 (Int32.ofNat ((i - 12) / 3)) (Int32.ofNat (i % 3))
def two (m : Int32) (M : MM) : Bool := (List.range 25).all fun o => match opN o M with | none => false | some (_, M2) => tailOK M2 && (match f24 4 M2 m with | none => false | some (_, M3) => tailOK M3)
def one (i : Nat) : Bool := match opN i M0 with | none => false | some (_, M1) => two (ld M1 9 0) M1 && (match f8 4 M1 with | none => false | some (_, M5) => two (ld M1 9 0) M5)
set_option maxRecDepth 100000 in
theorem own_c0 : one 0 = true := by decide +kernel
set_option maxRecDepth 100000 in
theorem own_c1 : one 1 = true := by decide +kernel
set_option maxRecDepth 100000 in
theorem own_c2 : one 2 = true := by decide +kernel
set_option maxRecDepth 100000 in
theorem own_c3 : one 3 = true := by decide +kernel
set_option maxRecDepth 100000 in
theorem own_c4 : one 4 = true := by decide +kernel
set_option maxRecDepth 100000 in
theorem own_c5 : one 5 = true := by decide +kernel
set_option maxRecDepth 100000 in
theorem own_c6 : one 6 = true := by decide +kernel
set_option maxRecDepth 100000 in
theorem own_c7 : one 7 = true := by decide +kernel
set_option maxRecDepth 100000 in
theorem own_c8 : one 8 = true := by decide +kernel
set_option maxRecDepth 100000 in
theorem own_c9 : one 9 = true := by decide +kernel
set_option maxRecDepth 100000 in
theorem own_c10 : one 10 = true := by decide +kernel
set_option maxRecDepth 100000 in
theorem own_c11 : one 11 = true := by decide +kernel
set_option maxRecDepth 100000 in
theorem own_c12 : one 12 = true := by decide +kernel
set_option maxRecDepth 100000 in
theorem own_c13 : one 13 = true := by decide +kernel
set_option maxRecDepth 100000 in
theorem own_c14 : one 14 = true := by decide +kernel
set_option maxRecDepth 100000 in
theorem own_c15 : one 15 = true := by decide +kernel
set_option maxRecDepth 100000 in
theorem own_c16 : one 16 = true := by decide +kernel
set_option maxRecDepth 100000 in
theorem own_c17 : one 17 = true := by decide +kernel
set_option maxRecDepth 100000 in
theorem own_c18 : one 18 = true := by decide +kernel
set_option maxRecDepth 100000 in
theorem own_c19 : one 19 = true := by decide +kernel
set_option maxRecDepth 100000 in
theorem own_c20 : one 20 = true := by decide +kernel
set_option maxRecDepth 100000 in
theorem own_c21 : one 21 = true := by decide +kernel
set_option maxRecDepth 100000 in
theorem own_c22 : one 22 = true := by decide +kernel
set_option maxRecDepth 100000 in
theorem own_c23 : one 23 = true := by decide +kernel
set_option maxRecDepth 100000 in
theorem own_c24 : one 24 = true := by decide +kernel
theorem own_one (i : Nat) (h : i < 25) : one i = true := by
  match i, h with
  | 0, _ => exact own_c0
  | 1, _ => exact own_c1
  | 2, _ => exact own_c2
  | 3, _ => exact own_c3
  | 4, _ => exact own_c4
  | 5, _ => exact own_c5
  | 6, _ => exact own_c6
  | 7, _ => exact own_c7
  | 8, _ => exact own_c8
  | 9, _ => exact own_c9
  | 10, _ => exact own_c10
  | 11, _ => exact own_c11
  | 12, _ => exact own_c12
  | 13, _ => exact own_c13
  | 14, _ => exact own_c14
  | 15, _ => exact own_c15
  | 16, _ => exact own_c16
  | 17, _ => exact own_c17
  | 18, _ => exact own_c18
  | 19, _ => exact own_c19
  | 20, _ => exact own_c20
  | 21, _ => exact own_c21
  | 22, _ => exact own_c22
  | 23, _ => exact own_c23
  | 24, _ => exact own_c24
  | k + 25, h => exact absurd h (by omega)
theorem own_eqB {a b : Int32} (h : eqB a b = true) : a = b := Int32.toBitVec_inj.mp (BitVec.eq_of_toNat_eq (Nat.eq_of_beq_eq_true h))
theorem own_tail {M : MM} (h : tailOK M = true) (p0 p1 p2 p3 p4 a : Int32) : ∃ Mf, f0_66 p0 p1 p2 p3 p4 M a = some (1, Mf) := by
  unfold tailOK at h
  cases e : f8 4 M with
  | none => rw [e] at h; cases h
  | some z =>
    obtain ⟨v, M4⟩ := z
    rw [e] at h
    obtain ⟨h1, h2⟩ := (Bool.and_eq_true _ _).mp h
    cases e2 : f0_83 0 0 0 0 0 M4 with
    | none => rw [e2] at h2; cases h2
    | some z =>
      obtain ⟨w, Mf⟩ := z
      rw [e2] at h2
      have hw := own_eqB h2
      subst hw
      have e3 : f0_83 p0 p1 p2 p3 p4 M4 = some (1, Mf) := e2
      refine ⟨Mf, ?_⟩
      unfold f0_66
      rw [e]
      show cnd (eqB (p0 &&& (64 : Int32)) (0 : Int32)) (f0_83 p0 p1 p2 p3 p4 M4) (bnd (f8 4 M4) fun _ M' => f0_83 p0 p1 p2 p3 p4 M') = _
      have e4 : f8 4 M4 = some (0, M4) := by
        show cnd (eqB (ld M4 10 0) (0 : Int32)) _ _ = _
        have : eqB (ld M4 10 0) 0 = false := by simpa using h1
        rw [this]; rfl
      rw [e4]
      show cnd _ _ (f0_83 p0 p1 p2 p3 p4 M4) = _
      rw [e3]
      cases eqB (p0 &&& (64 : Int32)) (0 : Int32) <;> rfl
theorem own_two {m : Int32} {M : MM} (h : two m M = true) (i : Nat) (hi : i < 25) : ∃ v M2, opN i M = some (v, M2) ∧ tailOK M2 = true ∧ ∃ v3 M3, f24 4 M2 m = some (v3, M3) ∧ tailOK M3 = true := by
  have h := List.all_eq_true.mp h i (List.mem_range.mpr hi)
  cases e : opN i M with
  | none => rw [e] at h; cases h
  | some z =>
    obtain ⟨v, M2⟩ := z
    rw [e] at h
    obtain ⟨h1, h2⟩ := (Bool.and_eq_true _ _).mp h
    refine ⟨v, M2, rfl, h1, ?_⟩
    cases e2 : f24 4 M2 m with
    | none => rw [e2] at h2; cases h2
    | some z => obtain ⟨v3, M3⟩ := z; rw [e2] at h2; exact ⟨v3, M3, rfl, h2⟩
theorem own_f6 {M : MM} {k x y x' y' : Int32} (h3 : x &&& (3 : Int32) = x' &&& (3 : Int32)) (h4 : (y &&& (2147483647 : Int32)) % (3 : Int32) = (y' &&& (2147483647 : Int32)) % (3 : Int32)) : f6 4 M k x y = f6 4 M k x' y' := by
  unfold f6; rw [h3, h4]
theorem own_v4 (q : Int32) : q &&& (3 : Int32) = 0 ∨ q &&& (3 : Int32) = 1 ∨ q &&& (3 : Int32) = 2 ∨ q &&& (3 : Int32) = 3 := by
  have := own_rand q 3 4 (by decide) (by decide)
  have e : (q &&& (3 : Int32)).toInt = 0 ∨ (q &&& (3 : Int32)).toInt = 1 ∨ (q &&& (3 : Int32)).toInt = 2 ∨ (q &&& (3 : Int32)).toInt = 3 := by omega
  rcases e with e | e | e | e
  · exact Or.inl (Int32.toInt_inj.mp e)
  · exact Or.inr (Or.inl (Int32.toInt_inj.mp e))
  · exact Or.inr (Or.inr (Or.inl (Int32.toInt_inj.mp e)))
  · exact Or.inr (Or.inr (Or.inr (Int32.toInt_inj.mp e)))
theorem own_v3 (q : Int32) : (q &&& (2147483647 : Int32)) % (3 : Int32) = 0 ∨ (q &&& (2147483647 : Int32)) % (3 : Int32) = 1 ∨ (q &&& (2147483647 : Int32)) % (3 : Int32) = 2 := by
  have := own_rrem (q &&& (2147483647 : Int32)) (3 : Int32) 3 (own_rand q (2147483647 : Int32) 2147483648 (by decide) (by decide)).1 (by decide) (by decide)
  have e : ((q &&& (2147483647 : Int32)) % (3 : Int32)).toInt = 0 ∨ ((q &&& (2147483647 : Int32)) % (3 : Int32)).toInt = 1 ∨ ((q &&& (2147483647 : Int32)) % (3 : Int32)).toInt = 2 := by omega
  rcases e with e | e | e
  · exact Or.inl (Int32.toInt_inj.mp e)
  · exact Or.inr (Or.inl (Int32.toInt_inj.mp e))
  · exact Or.inr (Or.inr (Int32.toInt_inj.mp e))
theorem own_at (M : MM) (k x y : Int32) : ∃ i, i < 12 ∧ f6 4 M k x y = f6 4 M k (Int32.ofNat (i / 3)) (Int32.ofNat (i % 3)) := by
  rcases own_v4 x with hx | hx | hx | hx <;> rcases own_v3 y with hy | hy | hy
  · exact ⟨0, by decide, own_f6 (by rw [hx]; decide) (by rw [hy]; decide)⟩
  · exact ⟨1, by decide, own_f6 (by rw [hx]; decide) (by rw [hy]; decide)⟩
  · exact ⟨2, by decide, own_f6 (by rw [hx]; decide) (by rw [hy]; decide)⟩
  · exact ⟨3, by decide, own_f6 (by rw [hx]; decide) (by rw [hy]; decide)⟩
  · exact ⟨4, by decide, own_f6 (by rw [hx]; decide) (by rw [hy]; decide)⟩
  · exact ⟨5, by decide, own_f6 (by rw [hx]; decide) (by rw [hy]; decide)⟩
  · exact ⟨6, by decide, own_f6 (by rw [hx]; decide) (by rw [hy]; decide)⟩
  · exact ⟨7, by decide, own_f6 (by rw [hx]; decide) (by rw [hy]; decide)⟩
  · exact ⟨8, by decide, own_f6 (by rw [hx]; decide) (by rw [hy]; decide)⟩
  · exact ⟨9, by decide, own_f6 (by rw [hx]; decide) (by rw [hy]; decide)⟩
  · exact ⟨10, by decide, own_f6 (by rw [hx]; decide) (by rw [hy]; decide)⟩
  · exact ⟨11, by decide, own_f6 (by rw [hx]; decide) (by rw [hy]; decide)⟩
theorem own_op (M : MM) (q x y : Int32) : ∃ i, i < 25 ∧ f6 4 M (q &&& (3 : Int32)) x y = opN i M := by
  have one' : ∃ i, i < 25 ∧ f6 4 M 1 x y = opN i M := by
    obtain ⟨i, hi, e⟩ := own_at M 1 x y
    refine ⟨i + 1, by omega, ?_⟩
    show _ = if i < 12 then f6 4 M 1 (Int32.ofNat (i / 3)) (Int32.ofNat (i % 3)) else f6 4 M 2 (Int32.ofNat ((i - 12) / 3)) (Int32.ofNat (i % 3))
    rw [if_pos hi]; exact e
  rcases own_v4 q with h | h | h | h <;> rw [h]
  · exact ⟨0, by decide, rfl⟩
  · exact one'
  · obtain ⟨i, hi, e⟩ := own_at M 2 x y
    refine ⟨i + 12 + 1, by omega, ?_⟩
    show _ = if i + 12 < 12 then f6 4 M 1 (Int32.ofNat ((i + 12) / 3)) (Int32.ofNat ((i + 12) % 3)) else f6 4 M 2 (Int32.ofNat ((i + 12 - 12) / 3)) (Int32.ofNat ((i + 12) % 3))
    rw [if_neg (by omega), show i + 12 - 12 = i by omega, show (i + 12) % 3 = i % 3 by omega]; exact e
  · exact one'
theorem own_39 {m : Int32} {M : MM} (h : two m M = true) (p0 p1 p2 p3 p4 a0 a3 a4 : Int32) : ∃ Mf, f0_39 p0 p1 p2 p3 p4 M a0 a3 a4 m = some (1, Mf) := by
  obtain ⟨i, hi, e⟩ := own_op M ((p0.toUInt32 >>> ((2 : Int32) &&& 31).toUInt32).toInt32) p3 p4
  obtain ⟨v, M2, e2, t2, v3, M3, e3, t3⟩ := own_two h i hi
  obtain ⟨A, hA⟩ := own_tail t2 p0 p1 p2 p3 p4 p0
  obtain ⟨B, hB⟩ := own_tail t3 p0 p1 p2 p3 p4 p0
  unfold f0_39
  rw [e, e2]
  show ∃ Mf, cnd (eqB (p0 &&& (32 : Int32)) (0 : Int32)) (f0_66 p0 p1 p2 p3 p4 M2 p0) (bnd (f24 4 M2 m) fun _ M' => f0_66 p0 p1 p2 p3 p4 M' p0) = _
  rw [e3]
  show ∃ Mf, cnd _ _ (f0_66 p0 p1 p2 p3 p4 M3 p0) = _
  rw [hA, hB]
  cases eqB (p0 &&& (32 : Int32)) (0 : Int32)
  · exact ⟨B, rfl⟩
  · exact ⟨A, rfl⟩
theorem own_law (p0 p1 p2 p3 p4 : Int32) : ∃ Mf, f0 p0 p1 p2 p3 p4 = some (1, Mf) := by
  obtain ⟨i, hi, e⟩ := own_op M0 p0 p1 p2
  have h := own_one i hi
  unfold one at h
  unfold f0
  rw [e]
  cases e1 : opN i M0 with
  | none => rw [e1] at h; cases h
  | some z =>
    obtain ⟨v, M1⟩ := z
    rw [e1] at h
    obtain ⟨h1, h2⟩ := (Bool.and_eq_true _ _).mp h
    show ∃ Mf, cnd (eqB (p0 &&& (16 : Int32)) (0 : Int32)) (f0_39 p0 p1 p2 p3 p4 M1 p0 p3 p4 (ld M1 9 0)) (bnd (f8 4 M1) fun _ M' => f0_39 p0 p1 p2 p3 p4 M' p0 p3 p4 (ld M1 9 0)) = _
    obtain ⟨A, hA⟩ := own_39 h1 p0 p1 p2 p3 p4 p0 p3 p4
    cases e8 : f8 4 M1 with
    | none => rw [e8] at h2; cases h2
    | some z =>
      obtain ⟨v8, M5⟩ := z
      rw [e8] at h2
      obtain ⟨B, hB⟩ := own_39 h2 p0 p1 p2 p3 p4 p0 p3 p4
      show ∃ Mf, cnd _ _ (f0_39 p0 p1 p2 p3 p4 M5 p0 p3 p4 (ld M1 9 0)) = _
      rw [hA, hB]
      cases eqB (p0 &&& (16 : Int32)) (0 : Int32)
      · exact ⟨B, rfl⟩
      · exact ⟨A, rfl⟩
theorem pn_0 : plainName "com/example/onetree/onetree/EdgeStatesListNeighboursPinLaw" = true := by first | (simp [plainName, overriddenIn]; done) | decide +kernel
theorem ef_0 (m : MethodId) (p0 : Int32) (p1 : Int32) (p2 : Int32) (p3 : Int32) (p4 : Int32) : entryFrame m #[(.int p0), (.int p1), (.int p2), (.int p3), (.int p4)] maxLocals = mkF m 0 #[.val (.int p0), .val (.int p1), .val (.int p2), .val (.int p3), .val (.int p4), .unset, .unset] [] := by first | (simp [entryFrame, mkF, argsToLocals, Value.category, maxLocals]; done) | rfl
def Q0 (Z : State) (p0 : Int32) (p1 : Int32) (p2 : Int32) (p3 : Int32) (p4 : Int32) (h0 : Heap) (n0 : Nat) (v : Option Value) (h : Heap) (L : List Loc) : Prop := v = some (.int (1 : Int32)) ∧ Fr n0 L ∧ True
set_option maxRecDepth 65536 in
set_option maxHeartbeats 40000000 in
theorem rm0 (l : Launch) (Z : State) (a0 : Array Value) (hw : ∀ d ∈ tables_1, d.before a0 Z = true) (ws : List Jvm.Cond) (hS : StF Z) (p0 : Int32) (p1 : Int32) (p2 : Int32) (p3 : Int32) (p4 : Int32) (h0 : Heap) (n0 : Nat) (O0 : Old Z n0 h0) :
    MetFree l x (head1 (Jvm.Cond.code x code maxLocals ret :: ws) room_1) (fun a U => a = #[(.int p0), (.int p1), (.int p2), (.int p3), (.int p4)] ∧ Z.Warmed39 U.vm ∧ U.heap = h0) (fun _ _ _ _ _ => True) (fun _ U o U' => ∃ v L, o = .returned v ∧ Q0 Z p0 p1 p2 p3 p4 h0 n0 v U'.heap L ∧ FrameEnd U o U' L room_1.cells room_1.slots) := by
  refine MetFree.of_bodySF (plainFor_of_name pn_0) hisR ?_
  intro p e s m args below meth c s₁ Bd hml0 hP hK
  obtain ⟨rfl, hZ, hh⟩ := hP
  have hx := Bd.exec
  have hby := Bd.bytes
  have hml : c.maxLocals = 7 := hml0
  have hown : s.vm.findClass "com/example/onetree/onetree/EdgeStatesListNeighboursPinLaw" = some m.cls := findClass_of_methodNamed Bd.named
  have hnm := (name_of_methodNamed Bd.named Bd.method).1
  have X0 : Stand p l e room_1 s m #[(.int p0), (.int p1), (.int p2), (.int p3), (.int p4)] below meth c s₁ [] 0 0 := Stand.of_body Bd
  have e0 : s₁.heap = h0 := by rw [← hh, Bd.state]; rfl
  have N0 := Fr.nil n0
  have hS0 := hS
  skip
  have pre0 : ∀ t, Steps p.tables e below (s₁.setTop (mkF m 0 #[.val (.int p0), .val (.int p1), .val (.int p2), .val (.int p3), .val (.int p4), .unset, .unset] [])) t → Steps p.tables e below (s₁.setTop (entryFrame m #[(.int p0), (.int p1), (.int p2), (.int p3), (.int p4)] maxLocals)) t := fun t k => castTop (ef_0 m p0 p1 p2 p3 p4) k
  generalize hE0 : s₁.setTop (entryFrame m #[(.int p0), (.int p1), (.int p2), (.int p3), (.int p4)] maxLocals) = E0 at pre0 ⊢
  apply Classical.byContradiction
  intro hno
  obtain ⟨Mf, hf⟩ := own_law p0 p1 p2 p3 p4
  unfold f0 at hf
  have hSl : SlotsOK Z := own_slots (a0 := a0) fun p hp => by
    simp only [nmsE, List.mem_cons, List.not_mem_nil, or_false] at hp
    rcases hp with rfl | rfl | rfl | rfl | rfl | rfl | rfl | rfl | rfl | rfl | rfl | rfl | rfl | rfl | rfl
    · exact (Or.inr (hw _ (tk 13 rfl)))
    · exact (Or.inr (hw _ (tk 22 rfl)))
    · exact (Or.inr (hw _ (tk 25 rfl)))
    · exact (Or.inr (hw _ (tk 27 rfl)))
    · exact (Or.inr (hw _ (tk 40 rfl)))
    · exact (Or.inr (hw _ (tk 42 rfl)))
    · exact (Or.inr (hw _ (tk 44 rfl)))
    · exact (Or.inr (hw _ (tk 47 rfl)))
    · exact (Or.inr (hw _ (tk 38 rfl)))
    · exact (Or.inr (hw _ (tk 49 rfl)))
    · exact (Or.inr (hw _ (tk 51 rfl)))
    · exact (Or.inl (hw _ (tk 63 rfl)))
    · exact (Or.inl (hw _ (tk 70 rfl)))
    · exact (Or.inl (hw _ (tk 115 rfl)))
    · exact (Or.inl (hw _ (tk 117 rfl)))
  obtain ⟨T1, h1, X1, e1, E1, A1, D1, -, st1⟩ := newO X0 hx hZ hown (hw _ (tk 0 rfl)) (hw _ (tk 1 rfl)) (hw _ (tk 2 rfl)) e0 (g := (mkF m 0 (lt1 p0 p1 p2 p3 p4) [])) rfl (hb hby at_0) (by decide) (by decide)
  obtain ⟨b1, g1⟩ : ∃ z, z = h0.size := ⟨_, rfl⟩
  rw [← g1] at A1 D1 st1
  have g_b1 : n0 ≤ b1 := Nat.le_trans (own_old O0) (Nat.le_of_eq g1.symm)
  have O1 : Old Z n0 h1 := O0.ext E1
  have F_cities_b1 : Fld Z h1 b1 "com/example/onetree/onetree/EdgeStates" "cities" "I" (.int (0 : Int32)) := D1 (Or.inr (hw _ (tk 13 rfl))) (ty := .int) (by decide)
  have F_fixedEdges_b1 : Fld Z h1 b1 "com/example/onetree/onetree/EdgeStates" "fixedEdges" "[[I" .null := D1 (Or.inr (hw _ (tk 17 rfl))) (ty := (.array (.array .int))) (by decide)
  have F_states_b1 : Fld Z h1 b1 "com/example/onetree/onetree/EdgeStates" "states" "[[B" .null := D1 (Or.inr (hw _ (tk 22 rfl))) (ty := (.array (.array .byte))) (by decide)
  have F_forcedDegree_b1 : Fld Z h1 b1 "com/example/onetree/onetree/EdgeStates" "forcedDegree" "[I" .null := D1 (Or.inr (hw _ (tk 25 rfl))) (ty := (.array .int)) (by decide)
  have F_openDegree_b1 : Fld Z h1 b1 "com/example/onetree/onetree/EdgeStates" "openDegree" "[I" .null := D1 (Or.inr (hw _ (tk 27 rfl))) (ty := (.array .int)) (by decide)
  have F_trail_b1 : Fld Z h1 b1 "com/example/onetree/onetree/EdgeStates" "trail" "[I" .null := D1 (Or.inr (hw _ (tk 38 rfl))) (ty := (.array .int)) (by decide)
  have F_otherEnd_b1 : Fld Z h1 b1 "com/example/onetree/onetree/EdgeStates" "otherEnd" "[I" .null := D1 (Or.inr (hw _ (tk 40 rfl))) (ty := (.array .int)) (by decide)
  have F_pathSize_b1 : Fld Z h1 b1 "com/example/onetree/onetree/EdgeStates" "pathSize" "[I" .null := D1 (Or.inr (hw _ (tk 42 rfl))) (ty := (.array .int)) (by decide)
  have F_pending_b1 : Fld Z h1 b1 "com/example/onetree/onetree/EdgeStates" "pending" "[I" .null := D1 (Or.inr (hw _ (tk 44 rfl))) (ty := (.array .int)) (by decide)
  have F_isPending_b1 : Fld Z h1 b1 "com/example/onetree/onetree/EdgeStates" "isPending" "[Z" .null := D1 (Or.inr (hw _ (tk 47 rfl))) (ty := (.array .boolean)) (by decide)
  have F_listStart_b1 : Fld Z h1 b1 "com/example/onetree/onetree/EdgeStates" "listStart" "[I" .null := D1 (Or.inr (hw _ (tk 49 rfl))) (ty := (.array .int)) (by decide)
  have F_neighbours_b1 : Fld Z h1 b1 "com/example/onetree/onetree/EdgeStates" "neighbours" "[I" .null := D1 (Or.inr (hw _ (tk 51 rfl))) (ty := (.array .int)) (by decide)
  have F_trailSize_b1 : Fld Z h1 b1 "com/example/onetree/onetree/EdgeStates" "trailSize" "I" (.int (0 : Int32)) := D1 (Or.inl (hw _ (tk 63 rfl))) (ty := .int) (by decide)
  have F_listed_b1 : Fld Z h1 b1 "com/example/onetree/onetree/EdgeStates" "listed" "Z" (.int (0 : Int32)) := D1 (Or.inl (hw _ (tk 70 rfl))) (ty := .boolean) (by decide)
  have F_pendingHead_b1 : Fld Z h1 b1 "com/example/onetree/onetree/EdgeStates" "pendingHead" "I" (.int (0 : Int32)) := D1 (Or.inl (hw _ (tk 115 rfl))) (ty := .int) (by decide)
  have F_pendingCount_b1 : Fld Z h1 b1 "com/example/onetree/onetree/EdgeStates" "pendingCount" "I" (.int (0 : Int32)) := D1 (Or.inl (hw _ (tk 117 rfl))) (ty := .int) (by decide)
  obtain ⟨_, _, ⟨T341, L341, k341, n341⟩, -, X341, ⟨Lc341, hQ341, l341, y341, z341⟩, st341⟩ := X1.specialBack hx (y := Y12) rfl hown (mvT hZ (hw _ (tk 3 rfl))) (mvT hZ (hw _ (tk 4 rfl))) (mvT hZ (hw _ (tk 5 rfl))) (by decide) (backOf (W := 1) (rm1x1 l Z a0 hw [] hS0 b1 h1 n0 O1 g_b1 A1 F_cities_b1 F_fixedEdges_b1 F_forcedDegree_b1 F_isPending_b1 F_listStart_b1 F_listed_b1 F_neighbours_b1 F_openDegree_b1 F_otherEnd_b1 F_pathSize_b1 F_pending_b1 F_pendingCount_b1 F_pendingHead_b1 F_states_b1 F_trail_b1 F_trailSize_b1) hZ (hw _ (tk 5 rfl)) (hw _ (tk 2 rfl)) (by decide) (by decide)) (g := (mkF m 5 (lt1 p0 p1 p2 p3 p4) [(.int (4 : Int32)), (.ref b1), (.ref b1)])) rfl (by rw [hml]; rfl) (Steps.refl _) (a := b1) (argsL := [(.int (4 : Int32))]) (rest := [(.ref b1)]) (lenOf pd_3 rfl) rfl (by show 2 * 0 + _ ≤ _; exact Nat.le_of_eq rfl) (hb hby at_5) (fun _ _ => ⟨rfl, e1, (by decide : 1 + 15 ≤ _), (by decide : 16 + 97 ≤ _)⟩)
  dsimp only [Pt.U, Pt.locs, Pt.cells, Pt.slots] at X341 l341 y341 z341 st341 hQ341
  rw [l341, y341, z341] at X341
  obtain ⟨A, K, S0, rv341, N341q, O341, B341⟩ := hQ341
  subst rv341
  have N341 := Fr.app N0 N341q
  have j83 : ∀ (M : MM) (s0 : Slot) (s1 : Slot) (s2 : Slot) (s3 : Slot) (s4 : Slot) (s6 : Slot) (_ : s0 = .unset ∨ ∃ w, s0 = .val w ∧ w.category = 1) (_ : s1 = .unset ∨ ∃ w, s1 = .val w ∧ w.category = 1) (_ : s2 = .unset ∨ ∃ w, s2 = .val w ∧ w.category = 1) (_ : s3 = .unset ∨ ∃ w, s3 = .val w ∧ w.category = 1) (_ : s4 = .unset ∨ ∃ w, s4 = .val w ∧ w.category = 1) (_ : s6 = .unset ∨ ∃ w, s6 = .val w ∧ w.category = 1) (T0 : State) (L1 : List Loc) (h1 : Heap), Stand p l e room_1 s m #[(.int p0), (.int p1), (.int p2), (.int p3), (.int p4)] below meth c T0 L1 16 113 → T0.heap = h1 → Old Z n0 h1 → Fr n0 L1 → EB Z n0 false h1 b1 A K S0 4 M → f0_83 p0 p1 p2 p3 p4 M = some (1, Mf) → Cm p e below E0 (T0.setTop (mkF m 83 (lt35 s0 s1 s2 s3 s4 b1 s6) [])) → False := by
    intro M s0 s1 s2 s3 s4 s6 u0 u1 u2 u3 u4 u6 T0 L1 h1 X1 e1 O1 N1 B1 hf pre1
    unfold f0_83 at hf
    obtain ⟨v961, M961, hc961, hf962⟩ := own_bnd hf
    clear hf
    obtain ⟨cq961, kq961, q961a, q961b, q961c⟩ := isOf hZ e1 B1.exa
    obtain ⟨_, _, ⟨T961, L961, k961, n961⟩, -, X961, ⟨Lc961, hQ961, l961, y961, z961⟩, st961⟩ := X1.virtualBack hx (y := Y53) (z := Y53) hown (mvT hZ (hw _ (tk 71 rfl))) (mvT hZ (hw _ (tk 72 rfl))) (notFace_of_selects (args := #[]) (mvT hZ (hw _ (tk 74 rfl)))) (mvT hZ (hw _ (tk 74 rfl))) (mvT hZ (hw _ (tk 73 rfl))) (by decide) (backOf (W := 0) (rm9 l Z a0 hw [] hSl false b1 A K S0 4 M (0 : Int32) v961 M961 h1 n0 O1 B1 hc961) hZ (hw _ (tk 75 rfl)) (hw _ (tk 2 rfl)) (by decide) (by decide)) q961a q961c (g := (mkF m 86 (lt35 s0 s1 s2 s3 s4 b1 s6) [(.int (0 : Int32)), (.ref b1)])) rfl (by rw [hml]; rfl) (Steps.refl _) (argsL := [(.int (0 : Int32))]) (rest := []) (lenOf pd_12 rfl) rfl (by show 2 * 0 + _ ≤ _; exact Nat.le_of_eq rfl) (hb hby at_86) (fun _ _ => ⟨rfl, e1, (by decide : 16 + 0 ≤ _), (by decide : 113 + 0 ≤ _)⟩)
    dsimp only [Pt.U, Pt.locs, Pt.cells, Pt.slots] at X961 l961 y961 z961 st961 hQ961
    rw [l961, y961, z961] at X961
    obtain ⟨rv961, N961q, O961, B961⟩ := hQ961
    subst rv961
    have N961 := Fr.app N1 N961q
    have pre963 : Cm p e below E0 (T961.setTop (mkF m 89 (lt35 s0 s1 s2 s3 s4 b1 s6) [(.int v961)])) := fun t kt => by
      refine pre1 t ?_
      show Sp p e below T0 (mkF m 83 (lt35 s0 s1 s2 s3 s4 b1 s6) []) _
      refine XS.aload X1.here hx rfl (hb hby at_83) rfl rfl ?_
      refine XS.iconst X1.here hx rfl (hb hby at_85) ?_
      show Sp p e below T0 (mkF m 86 (lt35 s0 s1 s2 s3 s4 b1 s6) [(.int (0 : Int32)), (.ref b1)]) _
      refine st961.trans ?_
      show Sp p e below T961 (mkF m 89 (lt35 s0 s1 s2 s3 s4 b1 s6) [(.int v961)]) _
      exact kt
    by_cases hc964 : v961 = (0 : Int32)
    · rw [own_eqT hc964] at hf962
      obtain ⟨v971, M971, hc971, hf972⟩ := own_bnd hf962
      clear hf962
      obtain ⟨cq971, kq971, q971a, q971b, q971c⟩ := isOf hZ rfl B961.exa
      obtain ⟨_, _, ⟨T971, L971, k971, n971⟩, -, X971, ⟨Lc971, hQ971, l971, y971, z971⟩, st971⟩ := X961.virtualBack hx (y := Y54) (z := Y54) hown (mvT hZ (hw _ (tk 76 rfl))) (mvT hZ (hw _ (tk 77 rfl))) (notFace_of_selects (args := #[]) (mvT hZ (hw _ (tk 79 rfl)))) (mvT hZ (hw _ (tk 79 rfl))) (mvT hZ (hw _ (tk 78 rfl))) (by decide) (backOf (W := 0) (rm10 l Z a0 hw [] hSl false b1 A K S0 4 M961 (0 : Int32) v971 M971 T961.heap n0 O961 B961 hc971) hZ (hw _ (tk 80 rfl)) (hw _ (tk 2 rfl)) (by decide) (by decide)) q971a q971c (g := (mkF m 97 (lt35 s0 s1 s2 s3 s4 b1 s6) [(.int (0 : Int32)), (.ref b1)])) rfl (by rw [hml]; rfl) (Steps.refl _) (argsL := [(.int (0 : Int32))]) (rest := []) (lenOf pd_12 rfl) rfl (by show 2 * 0 + _ ≤ _; exact Nat.le_of_eq rfl) (hb hby at_97) (fun _ _ => ⟨rfl, rfl, (by decide : 16 + 0 ≤ _), (by decide : 113 + 0 ≤ _)⟩)
      dsimp only [Pt.U, Pt.locs, Pt.cells, Pt.slots] at X971 l971 y971 z971 st971 hQ971
      rw [l971, y971, z971] at X971
      obtain ⟨rv971, N971q, O971, B971⟩ := hQ971
      subst rv971
      have N971 := Fr.app N961 N971q
      obtain ⟨v973, M973, hc973, hf974⟩ := own_bnd hf972
      clear hf972
      obtain ⟨cq973, kq973, q973a, q973b, q973c⟩ := isOf hZ rfl B971.exa
      obtain ⟨_, _, ⟨T973, L973, k973, n973⟩, -, X973, ⟨Lc973, hQ973, l973, y973, z973⟩, st973⟩ := X971.virtualBack hx (y := Y53) (z := Y53) hown (mvT hZ (hw _ (tk 71 rfl))) (mvT hZ (hw _ (tk 72 rfl))) (notFace_of_selects (args := #[]) (mvT hZ (hw _ (tk 74 rfl)))) (mvT hZ (hw _ (tk 74 rfl))) (mvT hZ (hw _ (tk 73 rfl))) (by decide) (backOf (W := 1) (rm9 l Z a0 hw [] hSl false b1 A K S0 4 M971 (1 : Int32) v973 M973 T971.heap n0 O971 B971 hc973) hZ (hw _ (tk 75 rfl)) (hw _ (tk 2 rfl)) (by decide) (by decide)) q973a q973c (g := (mkF m 103 (lt35 s0 s1 s2 s3 s4 b1 s6) [(.int (1 : Int32)), (.ref b1), (.int v971)])) rfl (by rw [hml]; rfl) (Steps.refl _) (argsL := [(.int (1 : Int32))]) (rest := [(.int v971)]) (lenOf pd_12 rfl) rfl (by show 2 * 0 + _ ≤ _; exact Nat.le_of_eq rfl) (hb hby at_103) (fun _ _ => ⟨rfl, rfl, (by decide : 16 + 0 ≤ _), (by decide : 113 + 0 ≤ _)⟩)
      dsimp only [Pt.U, Pt.locs, Pt.cells, Pt.slots] at X973 l973 y973 z973 st973 hQ973
      rw [l973, y973, z973] at X973
      obtain ⟨rv973, N973q, O973, B973⟩ := hQ973
      subst rv973
      have N973 := Fr.app N971 N973q
      have pre975 : Cm p e below E0 (T973.setTop (mkF m 106 (lt35 s0 s1 s2 s3 s4 b1 s6) [(.int v973), (.int v971)])) := fun t kt => by
        refine pre963 t ?_
        show Sp p e below T961 (mkF m 89 (lt35 s0 s1 s2 s3 s4 b1 s6) [(.int v961)]) _
        refine XS.ifYes X961.here hx rfl (pc0 := 89) (pc' := 94) rfl (hb hby at_89) rfl ((if0 _ _).trans (teq hc964).1) (by decide) (by decide) ?_
        show Sp p e below T961 (mkF m 94 (lt35 s0 s1 s2 s3 s4 b1 s6) []) _
        refine XS.aload X961.here hx rfl (hb hby at_94) rfl rfl ?_
        refine XS.iconst X961.here hx rfl (hb hby at_96) ?_
        show Sp p e below T961 (mkF m 97 (lt35 s0 s1 s2 s3 s4 b1 s6) [(.int (0 : Int32)), (.ref b1)]) _
        refine st971.trans ?_
        show Sp p e below T971 (mkF m 100 (lt35 s0 s1 s2 s3 s4 b1 s6) [(.int v971)]) _
        refine XS.aload X971.here hx rfl (hb hby at_100) rfl rfl ?_
        refine XS.iconst X971.here hx rfl (hb hby at_102) ?_
        show Sp p e below T971 (mkF m 103 (lt35 s0 s1 s2 s3 s4 b1 s6) [(.int (1 : Int32)), (.ref b1), (.int v971)]) _
        refine st973.trans ?_
        show Sp p e below T973 (mkF m 106 (lt35 s0 s1 s2 s3 s4 b1 s6) [(.int v973), (.int v971)]) _
        exact kt
      by_cases hc976 : v971 = v973
      · rw [own_eqT hc976] at hf974
        obtain ⟨v977, M977, hc977, hf978⟩ := own_bnd hf974
        clear hf974
        obtain ⟨cq977, kq977, q977a, q977b, q977c⟩ := isOf hZ rfl B973.exa
        obtain ⟨_, _, ⟨T977, L977, k977, n977⟩, -, X977, ⟨Lc977, hQ977, l977, y977, z977⟩, st977⟩ := X973.virtualBack hx (y := Y54) (z := Y54) hown (mvT hZ (hw _ (tk 76 rfl))) (mvT hZ (hw _ (tk 77 rfl))) (notFace_of_selects (args := #[]) (mvT hZ (hw _ (tk 79 rfl)))) (mvT hZ (hw _ (tk 79 rfl))) (mvT hZ (hw _ (tk 78 rfl))) (by decide) (backOf (W := 0) (rm10 l Z a0 hw [] hSl false b1 A K S0 4 M973 (1 : Int32) v977 M977 T973.heap n0 O973 B973 hc977) hZ (hw _ (tk 80 rfl)) (hw _ (tk 2 rfl)) (by decide) (by decide)) q977a q977c (g := (mkF m 112 (lt35 s0 s1 s2 s3 s4 b1 s6) [(.int (1 : Int32)), (.ref b1)])) rfl (by rw [hml]; rfl) (Steps.refl _) (argsL := [(.int (1 : Int32))]) (rest := []) (lenOf pd_12 rfl) rfl (by show 2 * 0 + _ ≤ _; exact Nat.le_of_eq rfl) (hb hby at_112) (fun _ _ => ⟨rfl, rfl, (by decide : 16 + 0 ≤ _), (by decide : 113 + 0 ≤ _)⟩)
        dsimp only [Pt.U, Pt.locs, Pt.cells, Pt.slots] at X977 l977 y977 z977 st977 hQ977
        rw [l977, y977, z977] at X977
        obtain ⟨rv977, N977q, O977, B977⟩ := hQ977
        subst rv977
        have N977 := Fr.app N973 N977q
        obtain ⟨v979, M979, hc979, hf980⟩ := own_bnd hf978
        clear hf978
        obtain ⟨cq979, kq979, q979a, q979b, q979c⟩ := isOf hZ rfl B977.exa
        obtain ⟨_, _, ⟨T979, L979, k979, n979⟩, -, X979, ⟨Lc979, hQ979, l979, y979, z979⟩, st979⟩ := X977.virtualBack hx (y := Y53) (z := Y53) hown (mvT hZ (hw _ (tk 71 rfl))) (mvT hZ (hw _ (tk 72 rfl))) (notFace_of_selects (args := #[]) (mvT hZ (hw _ (tk 74 rfl)))) (mvT hZ (hw _ (tk 74 rfl))) (mvT hZ (hw _ (tk 73 rfl))) (by decide) (backOf (W := 1) (rm9 l Z a0 hw [] hSl false b1 A K S0 4 M977 (2 : Int32) v979 M979 T977.heap n0 O977 B977 hc979) hZ (hw _ (tk 75 rfl)) (hw _ (tk 2 rfl)) (by decide) (by decide)) q979a q979c (g := (mkF m 118 (lt35 s0 s1 s2 s3 s4 b1 s6) [(.int (2 : Int32)), (.ref b1), (.int v977)])) rfl (by rw [hml]; rfl) (Steps.refl _) (argsL := [(.int (2 : Int32))]) (rest := [(.int v977)]) (lenOf pd_12 rfl) rfl (by show 2 * 0 + _ ≤ _; exact Nat.le_of_eq rfl) (hb hby at_118) (fun _ _ => ⟨rfl, rfl, (by decide : 16 + 0 ≤ _), (by decide : 113 + 0 ≤ _)⟩)
        dsimp only [Pt.U, Pt.locs, Pt.cells, Pt.slots] at X979 l979 y979 z979 st979 hQ979
        rw [l979, y979, z979] at X979
        obtain ⟨rv979, N979q, O979, B979⟩ := hQ979
        subst rv979
        have N979 := Fr.app N977 N979q
        have pre981 : Cm p e below E0 (T979.setTop (mkF m 121 (lt35 s0 s1 s2 s3 s4 b1 s6) [(.int v979), (.int v977)])) := fun t kt => by
          refine pre975 t ?_
          show Sp p e below T973 (mkF m 106 (lt35 s0 s1 s2 s3 s4 b1 s6) [(.int v973), (.int v971)]) _
          refine XS.icmpNo X973.here hx rfl (hb hby at_106) rfl (teq hc976).2 ?_
          show Sp p e below T973 (mkF m 109 (lt35 s0 s1 s2 s3 s4 b1 s6) []) _
          refine XS.aload X973.here hx rfl (hb hby at_109) rfl rfl ?_
          refine XS.iconst X973.here hx rfl (hb hby at_111) ?_
          show Sp p e below T973 (mkF m 112 (lt35 s0 s1 s2 s3 s4 b1 s6) [(.int (1 : Int32)), (.ref b1)]) _
          refine st977.trans ?_
          show Sp p e below T977 (mkF m 115 (lt35 s0 s1 s2 s3 s4 b1 s6) [(.int v977)]) _
          refine XS.aload X977.here hx rfl (hb hby at_115) rfl rfl ?_
          refine XS.iconst X977.here hx rfl (hb hby at_117) ?_
          show Sp p e below T977 (mkF m 118 (lt35 s0 s1 s2 s3 s4 b1 s6) [(.int (2 : Int32)), (.ref b1), (.int v977)]) _
          refine st979.trans ?_
          show Sp p e below T979 (mkF m 121 (lt35 s0 s1 s2 s3 s4 b1 s6) [(.int v979), (.int v977)]) _
          exact kt
        by_cases hc982 : v977 = v979
        · rw [own_eqT hc982] at hf980
          obtain ⟨v983, M983, hc983, hf984⟩ := own_bnd hf980
          clear hf980
          obtain ⟨cq983, kq983, q983a, q983b, q983c⟩ := isOf hZ rfl B979.exa
          obtain ⟨_, _, ⟨T983, L983, k983, n983⟩, -, X983, ⟨Lc983, hQ983, l983, y983, z983⟩, st983⟩ := X979.virtualBack hx (y := Y54) (z := Y54) hown (mvT hZ (hw _ (tk 76 rfl))) (mvT hZ (hw _ (tk 77 rfl))) (notFace_of_selects (args := #[]) (mvT hZ (hw _ (tk 79 rfl)))) (mvT hZ (hw _ (tk 79 rfl))) (mvT hZ (hw _ (tk 78 rfl))) (by decide) (backOf (W := 0) (rm10 l Z a0 hw [] hSl false b1 A K S0 4 M979 (2 : Int32) v983 M983 T979.heap n0 O979 B979 hc983) hZ (hw _ (tk 80 rfl)) (hw _ (tk 2 rfl)) (by decide) (by decide)) q983a q983c (g := (mkF m 127 (lt35 s0 s1 s2 s3 s4 b1 s6) [(.int (2 : Int32)), (.ref b1)])) rfl (by rw [hml]; rfl) (Steps.refl _) (argsL := [(.int (2 : Int32))]) (rest := []) (lenOf pd_12 rfl) rfl (by show 2 * 0 + _ ≤ _; exact Nat.le_of_eq rfl) (hb hby at_127) (fun _ _ => ⟨rfl, rfl, (by decide : 16 + 0 ≤ _), (by decide : 113 + 0 ≤ _)⟩)
          dsimp only [Pt.U, Pt.locs, Pt.cells, Pt.slots] at X983 l983 y983 z983 st983 hQ983
          rw [l983, y983, z983] at X983
          obtain ⟨rv983, N983q, O983, B983⟩ := hQ983
          subst rv983
          have N983 := Fr.app N979 N983q
          obtain ⟨v985, M985, hc985, hf986⟩ := own_bnd hf984
          clear hf984
          obtain ⟨cq985, kq985, q985a, q985b, q985c⟩ := isOf hZ rfl B983.exa
          obtain ⟨_, _, ⟨T985, L985, k985, n985⟩, -, X985, ⟨Lc985, hQ985, l985, y985, z985⟩, st985⟩ := X983.virtualBack hx (y := Y53) (z := Y53) hown (mvT hZ (hw _ (tk 71 rfl))) (mvT hZ (hw _ (tk 72 rfl))) (notFace_of_selects (args := #[]) (mvT hZ (hw _ (tk 74 rfl)))) (mvT hZ (hw _ (tk 74 rfl))) (mvT hZ (hw _ (tk 73 rfl))) (by decide) (backOf (W := 1) (rm9 l Z a0 hw [] hSl false b1 A K S0 4 M983 (3 : Int32) v985 M985 T983.heap n0 O983 B983 hc985) hZ (hw _ (tk 75 rfl)) (hw _ (tk 2 rfl)) (by decide) (by decide)) q985a q985c (g := (mkF m 133 (lt35 s0 s1 s2 s3 s4 b1 s6) [(.int (3 : Int32)), (.ref b1), (.int v983)])) rfl (by rw [hml]; rfl) (Steps.refl _) (argsL := [(.int (3 : Int32))]) (rest := [(.int v983)]) (lenOf pd_12 rfl) rfl (by show 2 * 0 + _ ≤ _; exact Nat.le_of_eq rfl) (hb hby at_133) (fun _ _ => ⟨rfl, rfl, (by decide : 16 + 0 ≤ _), (by decide : 113 + 0 ≤ _)⟩)
          dsimp only [Pt.U, Pt.locs, Pt.cells, Pt.slots] at X985 l985 y985 z985 st985 hQ985
          rw [l985, y985, z985] at X985
          obtain ⟨rv985, N985q, O985, B985⟩ := hQ985
          subst rv985
          have N985 := Fr.app N983 N985q
          have pre987 : Cm p e below E0 (T985.setTop (mkF m 136 (lt35 s0 s1 s2 s3 s4 b1 s6) [(.int v985), (.int v983)])) := fun t kt => by
            refine pre981 t ?_
            show Sp p e below T979 (mkF m 121 (lt35 s0 s1 s2 s3 s4 b1 s6) [(.int v979), (.int v977)]) _
            refine XS.icmpNo X979.here hx rfl (hb hby at_121) rfl (teq hc982).2 ?_
            show Sp p e below T979 (mkF m 124 (lt35 s0 s1 s2 s3 s4 b1 s6) []) _
            refine XS.aload X979.here hx rfl (hb hby at_124) rfl rfl ?_
            refine XS.iconst X979.here hx rfl (hb hby at_126) ?_
            show Sp p e below T979 (mkF m 127 (lt35 s0 s1 s2 s3 s4 b1 s6) [(.int (2 : Int32)), (.ref b1)]) _
            refine st983.trans ?_
            show Sp p e below T983 (mkF m 130 (lt35 s0 s1 s2 s3 s4 b1 s6) [(.int v983)]) _
            refine XS.aload X983.here hx rfl (hb hby at_130) rfl rfl ?_
            refine XS.iconst X983.here hx rfl (hb hby at_132) ?_
            show Sp p e below T983 (mkF m 133 (lt35 s0 s1 s2 s3 s4 b1 s6) [(.int (3 : Int32)), (.ref b1), (.int v983)]) _
            refine st985.trans ?_
            show Sp p e below T985 (mkF m 136 (lt35 s0 s1 s2 s3 s4 b1 s6) [(.int v985), (.int v983)]) _
            exact kt
          by_cases hc988 : v983 = v985
          · rw [own_eqT hc988] at hf986
            obtain ⟨v1108, M1108, hc1108, hf1109⟩ := own_bnd hf986
            clear hf986
            obtain ⟨_, _, ⟨T1108, L1108, k1108, n1108⟩, -, X1108, ⟨Lc1108, hQ1108, l1108, y1108, z1108⟩, st1108⟩ := Jvm.LawKit.callS X985 hx (y := Y61) hown (mvT hZ (hw _ (tk 81 rfl))) (mvT hZ (hw _ (tk 82 rfl))) (mvT hZ (hw _ (tk 54 rfl))) (mvT hZ (hw _ (tk 83 rfl))) (by decide) (backOf (W := 0) (rm11 l Z a0 hw [] hSl  b1 A K S0 4 M985 (0 : Int32) v1108 M1108 T985.heap n0 O985 B985 hc1108) hZ (hw _ (tk 83 rfl)) (hw _ (tk 54 rfl)) (by decide) (by decide)) (g := (mkF m 144 (lt35 s0 s1 s2 s3 s4 b1 s6) [(.int (0 : Int32)), (.ref b1)])) rfl (by rw [hml]; rfl) (argsL := [(.ref b1), (.int (0 : Int32))]) (rest := []) (lenOf pd_15 rfl) rfl (by show 2 * 0 + _ ≤ _; exact Nat.le_of_eq rfl) (hb hby at_144) (fun _ _ => ⟨rfl, rfl, (by decide : 16 + 1 ≤ _), (by decide : 113 + 3 ≤ _)⟩)
            dsimp only [Pt.U, Pt.locs, Pt.cells, Pt.slots] at X1108 l1108 y1108 z1108 st1108 hQ1108
            rw [l1108, y1108, z1108] at X1108
            obtain ⟨rv1108, N1108q, O1108, B1108⟩ := hQ1108
            subst rv1108
            have N1108 := Fr.app N985 N1108q
            have pre1110 : Cm p e below E0 (T1108.setTop (mkF m 147 (lt35 s0 s1 s2 s3 s4 b1 s6) [(.int v1108)])) := fun t kt => by
              refine pre987 t ?_
              show Sp p e below T985 (mkF m 136 (lt35 s0 s1 s2 s3 s4 b1 s6) [(.int v985), (.int v983)]) _
              refine XS.icmpYes X985.here hx rfl (pc0 := 136) (pc' := 141) rfl (hb hby at_136) rfl (teq hc988).1 (by decide) (by decide) ?_
              show Sp p e below T985 (mkF m 141 (lt35 s0 s1 s2 s3 s4 b1 s6) []) _
              refine XS.aload X985.here hx rfl (hb hby at_141) rfl rfl ?_
              refine XS.iconst X985.here hx rfl (hb hby at_143) ?_
              show Sp p e below T985 (mkF m 144 (lt35 s0 s1 s2 s3 s4 b1 s6) [(.int (0 : Int32)), (.ref b1)]) _
              refine st1108 _ ?_
              show Sp p e below T1108 (mkF m 147 (lt35 s0 s1 s2 s3 s4 b1 s6) [(.int v1108)]) _
              exact kt
            by_cases hc1111 : v1108 = (0 : Int32)
            · rw [own_eqT hc1111] at hf1109
              exact absurd (own_ret hf1109).1 (by decide)
            · rw [own_eqF hc1111] at hf1109
              obtain ⟨v1112, M1112, hc1112, hf1113⟩ := own_bnd hf1109
              clear hf1109
              obtain ⟨_, _, ⟨T1112, L1112, k1112, n1112⟩, -, X1112, ⟨Lc1112, hQ1112, l1112, y1112, z1112⟩, st1112⟩ := Jvm.LawKit.callS X1108 hx (y := Y61) hown (mvT hZ (hw _ (tk 81 rfl))) (mvT hZ (hw _ (tk 82 rfl))) (mvT hZ (hw _ (tk 54 rfl))) (mvT hZ (hw _ (tk 83 rfl))) (by decide) (backOf (W := 0) (rm11 l Z a0 hw [] hSl  b1 A K S0 4 M1108 (1 : Int32) v1112 M1112 T1108.heap n0 O1108 B1108 hc1112) hZ (hw _ (tk 83 rfl)) (hw _ (tk 54 rfl)) (by decide) (by decide)) (g := (mkF m 153 (lt35 s0 s1 s2 s3 s4 b1 s6) [(.int (1 : Int32)), (.ref b1)])) rfl (by rw [hml]; rfl) (argsL := [(.ref b1), (.int (1 : Int32))]) (rest := []) (lenOf pd_15 rfl) rfl (by show 2 * 0 + _ ≤ _; exact Nat.le_of_eq rfl) (hb hby at_153) (fun _ _ => ⟨rfl, rfl, (by decide : 17 + 1 ≤ _), (by decide : 116 + 3 ≤ _)⟩)
              dsimp only [Pt.U, Pt.locs, Pt.cells, Pt.slots] at X1112 l1112 y1112 z1112 st1112 hQ1112
              rw [l1112, y1112, z1112] at X1112
              obtain ⟨rv1112, N1112q, O1112, B1112⟩ := hQ1112
              subst rv1112
              have N1112 := Fr.app N1108 N1112q
              have pre1114 : Cm p e below E0 (T1112.setTop (mkF m 156 (lt35 s0 s1 s2 s3 s4 b1 s6) [(.int v1112)])) := fun t kt => by
                refine pre1110 t ?_
                show Sp p e below T1108 (mkF m 147 (lt35 s0 s1 s2 s3 s4 b1 s6) [(.int v1108)]) _
                refine XS.ifNo X1108.here hx rfl (hb hby at_147) rfl ((if0 _ _).trans (feq hc1111).1) ?_
                show Sp p e below T1108 (mkF m 150 (lt35 s0 s1 s2 s3 s4 b1 s6) []) _
                refine XS.aload X1108.here hx rfl (hb hby at_150) rfl rfl ?_
                refine XS.iconst X1108.here hx rfl (hb hby at_152) ?_
                show Sp p e below T1108 (mkF m 153 (lt35 s0 s1 s2 s3 s4 b1 s6) [(.int (1 : Int32)), (.ref b1)]) _
                refine st1112 _ ?_
                show Sp p e below T1112 (mkF m 156 (lt35 s0 s1 s2 s3 s4 b1 s6) [(.int v1112)]) _
                exact kt
              by_cases hc1115 : v1112 = (0 : Int32)
              · rw [own_eqT hc1115] at hf1113
                exact absurd (own_ret hf1113).1 (by decide)
              · rw [own_eqF hc1115] at hf1113
                obtain ⟨v1116, M1116, hc1116, hf1117⟩ := own_bnd hf1113
                clear hf1113
                obtain ⟨_, _, ⟨T1116, L1116, k1116, n1116⟩, -, X1116, ⟨Lc1116, hQ1116, l1116, y1116, z1116⟩, st1116⟩ := Jvm.LawKit.callS X1112 hx (y := Y61) hown (mvT hZ (hw _ (tk 81 rfl))) (mvT hZ (hw _ (tk 82 rfl))) (mvT hZ (hw _ (tk 54 rfl))) (mvT hZ (hw _ (tk 83 rfl))) (by decide) (backOf (W := 0) (rm11 l Z a0 hw [] hSl  b1 A K S0 4 M1112 (2 : Int32) v1116 M1116 T1112.heap n0 O1112 B1112 hc1116) hZ (hw _ (tk 83 rfl)) (hw _ (tk 54 rfl)) (by decide) (by decide)) (g := (mkF m 162 (lt35 s0 s1 s2 s3 s4 b1 s6) [(.int (2 : Int32)), (.ref b1)])) rfl (by rw [hml]; rfl) (argsL := [(.ref b1), (.int (2 : Int32))]) (rest := []) (lenOf pd_15 rfl) rfl (by show 2 * 0 + _ ≤ _; exact Nat.le_of_eq rfl) (hb hby at_162) (fun _ _ => ⟨rfl, rfl, (by decide : 18 + 1 ≤ _), (by decide : 119 + 3 ≤ _)⟩)
                dsimp only [Pt.U, Pt.locs, Pt.cells, Pt.slots] at X1116 l1116 y1116 z1116 st1116 hQ1116
                rw [l1116, y1116, z1116] at X1116
                obtain ⟨rv1116, N1116q, O1116, B1116⟩ := hQ1116
                subst rv1116
                have N1116 := Fr.app N1112 N1116q
                have pre1118 : Cm p e below E0 (T1116.setTop (mkF m 165 (lt35 s0 s1 s2 s3 s4 b1 s6) [(.int v1116)])) := fun t kt => by
                  refine pre1114 t ?_
                  show Sp p e below T1112 (mkF m 156 (lt35 s0 s1 s2 s3 s4 b1 s6) [(.int v1112)]) _
                  refine XS.ifNo X1112.here hx rfl (hb hby at_156) rfl ((if0 _ _).trans (feq hc1115).1) ?_
                  show Sp p e below T1112 (mkF m 159 (lt35 s0 s1 s2 s3 s4 b1 s6) []) _
                  refine XS.aload X1112.here hx rfl (hb hby at_159) rfl rfl ?_
                  refine XS.iconst X1112.here hx rfl (hb hby at_161) ?_
                  show Sp p e below T1112 (mkF m 162 (lt35 s0 s1 s2 s3 s4 b1 s6) [(.int (2 : Int32)), (.ref b1)]) _
                  refine st1116 _ ?_
                  show Sp p e below T1116 (mkF m 165 (lt35 s0 s1 s2 s3 s4 b1 s6) [(.int v1116)]) _
                  exact kt
                by_cases hc1119 : v1116 = (0 : Int32)
                · rw [own_eqT hc1119] at hf1117
                  exact absurd (own_ret hf1117).1 (by decide)
                · rw [own_eqF hc1119] at hf1117
                  obtain ⟨v1120, M1120, hc1120, hf1121⟩ := own_bnd hf1117
                  clear hf1117
                  obtain ⟨_, _, ⟨T1120, L1120, k1120, n1120⟩, -, X1120, ⟨Lc1120, hQ1120, l1120, y1120, z1120⟩, st1120⟩ := Jvm.LawKit.callS X1116 hx (y := Y61) hown (mvT hZ (hw _ (tk 81 rfl))) (mvT hZ (hw _ (tk 82 rfl))) (mvT hZ (hw _ (tk 54 rfl))) (mvT hZ (hw _ (tk 83 rfl))) (by decide) (backOf (W := 0) (rm11 l Z a0 hw [] hSl  b1 A K S0 4 M1116 (3 : Int32) v1120 M1120 T1116.heap n0 O1116 B1116 hc1120) hZ (hw _ (tk 83 rfl)) (hw _ (tk 54 rfl)) (by decide) (by decide)) (g := (mkF m 171 (lt35 s0 s1 s2 s3 s4 b1 s6) [(.int (3 : Int32)), (.ref b1)])) rfl (by rw [hml]; rfl) (argsL := [(.ref b1), (.int (3 : Int32))]) (rest := []) (lenOf pd_15 rfl) rfl (by show 2 * 0 + _ ≤ _; exact Nat.le_of_eq rfl) (hb hby at_171) (fun _ _ => ⟨rfl, rfl, (by decide : 19 + 1 ≤ _), (by decide : 122 + 3 ≤ _)⟩)
                  dsimp only [Pt.U, Pt.locs, Pt.cells, Pt.slots] at X1120 l1120 y1120 z1120 st1120 hQ1120
                  rw [l1120, y1120, z1120] at X1120
                  obtain ⟨rv1120, N1120q, O1120, B1120⟩ := hQ1120
                  subst rv1120
                  have N1120 := Fr.app N1116 N1120q
                  have pre1122 : Cm p e below E0 (T1120.setTop (mkF m 174 (lt35 s0 s1 s2 s3 s4 b1 s6) [(.int v1120)])) := fun t kt => by
                    refine pre1118 t ?_
                    show Sp p e below T1116 (mkF m 165 (lt35 s0 s1 s2 s3 s4 b1 s6) [(.int v1116)]) _
                    refine XS.ifNo X1116.here hx rfl (hb hby at_165) rfl ((if0 _ _).trans (feq hc1119).1) ?_
                    show Sp p e below T1116 (mkF m 168 (lt35 s0 s1 s2 s3 s4 b1 s6) []) _
                    refine XS.aload X1116.here hx rfl (hb hby at_168) rfl rfl ?_
                    refine XS.iconst X1116.here hx rfl (hb hby at_170) ?_
                    show Sp p e below T1116 (mkF m 171 (lt35 s0 s1 s2 s3 s4 b1 s6) [(.int (3 : Int32)), (.ref b1)]) _
                    refine st1120 _ ?_
                    show Sp p e below T1120 (mkF m 174 (lt35 s0 s1 s2 s3 s4 b1 s6) [(.int v1120)]) _
                    exact kt
                  by_cases hc1123 : v1120 = (0 : Int32)
                  · rw [own_eqT hc1123] at hf1121
                    exact absurd (own_ret hf1121).1 (by decide)
                  · rw [own_eqF hc1123] at hf1121
                    obtain ⟨fs, hr, hrun, hended, hW, hsame⟩ := X1120.leave (v := some (.int (1 : Int32))) (fun h => by rw [Bd.returns] at h; cases h) (BodyLoose.notSynchronized Bd)
                    refine hno ⟨_, _, pre1122 _ ?_, hrun, hended, _, _, rfl, ?_, ⟨_, rfl⟩, hW, hsame.mono (by decide) (by decide)⟩
                    · show Sp p e below T1120 (mkF m 174 (lt35 s0 s1 s2 s3 s4 b1 s6) [(.int v1120)]) _
                      refine XS.ifNo X1120.here hx rfl (hb hby at_174) rfl ((if0 _ _).trans (feq hc1123).1) ?_
                      show Sp p e below T1120 (mkF m 177 (lt35 s0 s1 s2 s3 s4 b1 s6) []) _
                      refine XS.iconst X1120.here hx rfl (hb hby at_177) ?_
                      show Sp p e below T1120 (mkF m 178 (lt35 s0 s1 s2 s3 s4 b1 s6) [(.int (1 : Int32))]) _
                      refine XS.goto X1120.here hx rfl (pc0 := 178) (pc' := 182) rfl (hb hby at_178) (by decide) (by decide) ?_
                      show Sp p e below T1120 (mkF m 182 (lt35 s0 s1 s2 s3 s4 b1 s6) [(.int (1 : Int32))]) _
                      exact retN X1120 hx (t := .boolean) Bd.returns (by simp) (hb hby at_182) hr
                    · show Q0 Z p0 p1 p2 p3 p4 h0 n0 _ T1120.heap _
                      exact ⟨rfl, N1120, trivial⟩
          · rw [own_eqF hc988] at hf986
            exact absurd (own_ret hf986).1 (by decide)
        · rw [own_eqF hc982] at hf980
          exact absurd (own_ret hf980).1 (by decide)
      · rw [own_eqF hc976] at hf974
        exact absurd (own_ret hf974).1 (by decide)
    · rw [own_eqF hc964] at hf962
      exact absurd (own_ret hf962).1 (by decide)
  have j66 : ∀ (M : MM) (al0 : Int32) (s1 : Slot) (s2 : Slot) (s3 : Slot) (s4 : Slot) (s6 : Slot) (_ : s1 = .unset ∨ ∃ w, s1 = .val w ∧ w.category = 1) (_ : s2 = .unset ∨ ∃ w, s2 = .val w ∧ w.category = 1) (_ : s3 = .unset ∨ ∃ w, s3 = .val w ∧ w.category = 1) (_ : s4 = .unset ∨ ∃ w, s4 = .val w ∧ w.category = 1) (_ : s6 = .unset ∨ ∃ w, s6 = .val w ∧ w.category = 1) (T0 : State) (L1 : List Loc) (h1 : Heap), Stand p l e room_1 s m #[(.int p0), (.int p1), (.int p2), (.int p3), (.int p4)] below meth c T0 L1 16 113 → T0.heap = h1 → Old Z n0 h1 → Fr n0 L1 → EB Z n0 false h1 b1 A K S0 4 M → f0_66 p0 p1 p2 p3 p4 M al0 = some (1, Mf) → Cm p e below E0 (T0.setTop (mkF m 66 (lt34 p0 s1 s2 s3 s4 b1 s6) [])) → False := by
    intro M al0 s1 s2 s3 s4 s6 u1 u2 u3 u4 u6 T0 L1 h1 X1 e1 O1 N1 B1 hf pre1
    unfold f0_66 at hf
    obtain ⟨v947, M947, hc947, hf948⟩ := own_bnd hf
    clear hf
    obtain ⟨cq947, kq947, q947a, q947b, q947c⟩ := isOf hZ e1 B1.exa
    obtain ⟨_, _, ⟨T947, L947, k947, n947⟩, -, X947, ⟨Lc947, hQ947, l947, y947, z947⟩, st947⟩ := X1.virtualBack hx (y := Y47) (z := Y47) hown (mvT hZ (hw _ (tk 64 rfl))) (mvT hZ (hw _ (tk 65 rfl))) (notFace_of_selects (args := #[]) (mvT hZ (hw _ (tk 67 rfl)))) (mvT hZ (hw _ (tk 67 rfl))) (mvT hZ (hw _ (tk 66 rfl))) (by decide) (backOf (W := 0) (rm8 l Z a0 hw [] hSl false b1 A K S0 4 M v947 M947 h1 n0 O1 B1 hc947) hZ (hw _ (tk 68 rfl)) (hw _ (tk 2 rfl)) (by decide) (by decide)) q947a q947c (g := (mkF m 68 (lt34 p0 s1 s2 s3 s4 b1 s6) [(.ref b1)])) rfl (by rw [hml]; rfl) (Steps.refl _) (argsL := []) (rest := []) (lenOf pd_8 rfl) rfl (by show 2 * 0 + _ ≤ _; exact Nat.le_of_eq rfl) (hb hby at_68) (fun _ _ => ⟨rfl, e1, (by decide : 16 + 0 ≤ _), (by decide : 113 + 0 ≤ _)⟩)
    dsimp only [Pt.U, Pt.locs, Pt.cells, Pt.slots] at X947 l947 y947 z947 st947 hQ947
    rw [l947, y947, z947] at X947
    obtain ⟨rv947, N947q, O947, B947⟩ := hQ947
    subst rv947
    have N947 := Fr.app N1 N947q
    have pre949 : Cm p e below E0 (T947.setTop (mkF m 75 (lt34 p0 s1 s2 s3 s4 b1 s6) [(.int (p0 &&& (64 : Int32)))])) := fun t kt => by
      refine pre1 t ?_
      show Sp p e below T0 (mkF m 66 (lt34 p0 s1 s2 s3 s4 b1 s6) []) _
      refine XS.aload X1.here hx rfl (hb hby at_66) rfl rfl ?_
      show Sp p e below T0 (mkF m 68 (lt34 p0 s1 s2 s3 s4 b1 s6) [(.ref b1)]) _
      refine st947.trans ?_
      show Sp p e below T947 (mkF m 71 (lt34 p0 s1 s2 s3 s4 b1 s6) []) _
      refine XS.iloadN X947.here hx rfl (hb hby at_71) rfl ?_
      refine XS.bipush X947.here hx rfl (hb hby at_72) ?_
      show Sp p e below T947 (mkF m 74 (lt34 p0 s1 s2 s3 s4 b1 s6) [(.int (64 : Int32)), (.int p0)]) _
      refine XS.iand X947.here hx rfl (hb hby at_74) rfl ?_
      show Sp p e below T947 (mkF m 75 (lt34 p0 s1 s2 s3 s4 b1 s6) [(.int (p0 &&& (64 : Int32)))]) _
      exact kt
    by_cases hc950 : (p0 &&& (64 : Int32)) = (0 : Int32)
    · rw [own_eqT hc950] at hf948
      have pre951 : Cm p e below E0 (T947.setTop (mkF m 83 (lt34 p0 s1 s2 s3 s4 b1 s6) [])) := fun t kt => by
        refine pre949 t ?_
        show Sp p e below T947 (mkF m 75 (lt34 p0 s1 s2 s3 s4 b1 s6) [(.int (p0 &&& (64 : Int32)))]) _
        refine XS.ifYes X947.here hx rfl (pc0 := 75) (pc' := 83) rfl (hb hby at_75) rfl ((if0 _ _).trans (teq hc950).1) (by decide) (by decide) ?_
        show Sp p e below T947 (mkF m 83 (lt34 p0 s1 s2 s3 s4 b1 s6) []) _
        exact kt
      exact j83 M947 (.val (.int p0)) s1 s2 s3 s4 s6 (Or.inr ⟨_, rfl, rfl⟩) u1 u2 u3 u4 u6 T947 _ _ X947 rfl O947 N947 B947 hf948 pre951
    · rw [own_eqF hc950] at hf948
      obtain ⟨v952, M952, hc952, hf953⟩ := own_bnd hf948
      clear hf948
      obtain ⟨cq952, kq952, q952a, q952b, q952c⟩ := isOf hZ rfl B947.exa
      obtain ⟨_, _, ⟨T952, L952, k952, n952⟩, -, X952, ⟨Lc952, hQ952, l952, y952, z952⟩, st952⟩ := X947.virtualBack hx (y := Y47) (z := Y47) hown (mvT hZ (hw _ (tk 64 rfl))) (mvT hZ (hw _ (tk 65 rfl))) (notFace_of_selects (args := #[]) (mvT hZ (hw _ (tk 67 rfl)))) (mvT hZ (hw _ (tk 67 rfl))) (mvT hZ (hw _ (tk 66 rfl))) (by decide) (backOf (W := 0) (rm8 l Z a0 hw [] hSl false b1 A K S0 4 M947 v952 M952 T947.heap n0 O947 B947 hc952) hZ (hw _ (tk 68 rfl)) (hw _ (tk 2 rfl)) (by decide) (by decide)) q952a q952c (g := (mkF m 80 (lt34 p0 s1 s2 s3 s4 b1 s6) [(.ref b1)])) rfl (by rw [hml]; rfl) (Steps.refl _) (argsL := []) (rest := []) (lenOf pd_8 rfl) rfl (by show 2 * 0 + _ ≤ _; exact Nat.le_of_eq rfl) (hb hby at_80) (fun _ _ => ⟨rfl, rfl, (by decide : 16 + 0 ≤ _), (by decide : 113 + 0 ≤ _)⟩)
      dsimp only [Pt.U, Pt.locs, Pt.cells, Pt.slots] at X952 l952 y952 z952 st952 hQ952
      rw [l952, y952, z952] at X952
      obtain ⟨rv952, N952q, O952, B952⟩ := hQ952
      subst rv952
      have N952 := Fr.app N947 N952q
      have pre954 : Cm p e below E0 (T952.setTop (mkF m 83 (lt34 p0 s1 s2 s3 s4 b1 s6) [])) := fun t kt => by
        refine pre949 t ?_
        show Sp p e below T947 (mkF m 75 (lt34 p0 s1 s2 s3 s4 b1 s6) [(.int (p0 &&& (64 : Int32)))]) _
        refine XS.ifNo X947.here hx rfl (hb hby at_75) rfl ((if0 _ _).trans (feq hc950).1) ?_
        show Sp p e below T947 (mkF m 78 (lt34 p0 s1 s2 s3 s4 b1 s6) []) _
        refine XS.aload X947.here hx rfl (hb hby at_78) rfl rfl ?_
        show Sp p e below T947 (mkF m 80 (lt34 p0 s1 s2 s3 s4 b1 s6) [(.ref b1)]) _
        refine st952.trans ?_
        show Sp p e below T952 (mkF m 83 (lt34 p0 s1 s2 s3 s4 b1 s6) []) _
        exact kt
      exact j83 M952 (.val (.int p0)) s1 s2 s3 s4 s6 (Or.inr ⟨_, rfl, rfl⟩) u1 u2 u3 u4 u6 T952 _ _ X952 rfl O952 N952 B952 hf953 pre954
  have j39 : ∀ (M : MM) (al0 : Int32) (al3 : Int32) (al4 : Int32) (al6 : Int32) (s1 : Slot) (s2 : Slot) (_ : s1 = .unset ∨ ∃ w, s1 = .val w ∧ w.category = 1) (_ : s2 = .unset ∨ ∃ w, s2 = .val w ∧ w.category = 1) (T0 : State) (L1 : List Loc) (h1 : Heap), Stand p l e room_1 s m #[(.int p0), (.int p1), (.int p2), (.int p3), (.int p4)] below meth c T0 L1 16 113 → T0.heap = h1 → Old Z n0 h1 → Fr n0 L1 → EB Z n0 false h1 b1 A K S0 4 M → f0_39 p0 p1 p2 p3 p4 M al0 al3 al4 al6 = some (1, Mf) → Cm p e below E0 (T0.setTop (mkF m 39 (lt32 p0 s1 s2 p3 p4 b1 al6) [])) → False := by
    intro M al0 al3 al4 al6 s1 s2 u1 u2 T0 L1 h1 X1 e1 O1 N1 B1 hf pre1
    unfold f0_39 at hf
    obtain ⟨v810, M810, hc810, hf811⟩ := own_bnd hf
    clear hf
    obtain ⟨_, _, ⟨T810, L810, k810, n810⟩, -, X810, ⟨Lc810, hQ810, l810, y810, z810⟩, st810⟩ := Jvm.LawKit.callS X1 hx (y := Y40) hown (mvT hZ (hw _ (tk 52 rfl))) (mvT hZ (hw _ (tk 53 rfl))) (mvT hZ (hw _ (tk 54 rfl))) (mvT hZ (hw _ (tk 55 rfl))) (by decide) (backOf (W := 0) (rm6 l Z a0 hw [] hSl false b1 A K S0 4 M (((p0.toUInt32 >>> ((2 : Int32) &&& 31).toUInt32).toInt32) &&& (3 : Int32)) p3 p4 v810 M810 h1 n0 O1 B1 hc810) hZ (hw _ (tk 55 rfl)) (hw _ (tk 54 rfl)) (by decide) (by decide)) (g := (mkF m 49 (lt32 p0 s1 s2 p3 p4 b1 al6) [(.int p4), (.int p3), (.int (((p0.toUInt32 >>> ((2 : Int32) &&& 31).toUInt32).toInt32) &&& (3 : Int32))), (.ref b1)])) rfl (by rw [hml]; rfl) (argsL := [(.ref b1), (.int (((p0.toUInt32 >>> ((2 : Int32) &&& 31).toUInt32).toInt32) &&& (3 : Int32))), (.int p3), (.int p4)]) (rest := []) (lenOf pd_10 rfl) rfl (by show 2 * 0 + _ ≤ _; exact Nat.le_of_eq rfl) (hb hby at_49) (fun _ _ => ⟨rfl, e1, (by decide : 16 + 0 ≤ _), (by decide : 113 + 0 ≤ _)⟩)
    dsimp only [Pt.U, Pt.locs, Pt.cells, Pt.slots] at X810 l810 y810 z810 st810 hQ810
    rw [l810, y810, z810] at X810
    obtain ⟨rv810, N810q, O810, B810⟩ := hQ810
    subst rv810
    have N810 := Fr.app N1 N810q
    have pre812 : Cm p e below E0 (T810.setTop (mkF m 56 (lt32 p0 s1 s2 p3 p4 b1 al6) [(.int (p0 &&& (32 : Int32)))])) := fun t kt => by
      refine pre1 t ?_
      show Sp p e below T0 (mkF m 39 (lt32 p0 s1 s2 p3 p4 b1 al6) []) _
      refine XS.aload X1.here hx rfl (hb hby at_39) rfl rfl ?_
      refine XS.iloadN X1.here hx rfl (hb hby at_41) rfl ?_
      show Sp p e below T0 (mkF m 42 (lt32 p0 s1 s2 p3 p4 b1 al6) [(.int p0), (.ref b1)]) _
      refine XS.iconst X1.here hx rfl (hb hby at_42) ?_
      refine XS.iushr X1.here hx rfl (hb hby at_43) rfl ?_
      show Sp p e below T0 (mkF m 44 (lt32 p0 s1 s2 p3 p4 b1 al6) [(.int ((p0.toUInt32 >>> ((2 : Int32) &&& 31).toUInt32).toInt32)), (.ref b1)]) _
      refine XS.iconst X1.here hx rfl (hb hby at_44) ?_
      refine XS.iand X1.here hx rfl (hb hby at_45) rfl ?_
      show Sp p e below T0 (mkF m 46 (lt32 p0 s1 s2 p3 p4 b1 al6) [(.int (((p0.toUInt32 >>> ((2 : Int32) &&& 31).toUInt32).toInt32) &&& (3 : Int32))), (.ref b1)]) _
      refine XS.iloadN X1.here hx rfl (hb hby at_46) rfl ?_
      refine XS.iload X1.here hx rfl (hb hby at_47) rfl ?_
      show Sp p e below T0 (mkF m 49 (lt32 p0 s1 s2 p3 p4 b1 al6) [(.int p4), (.int p3), (.int (((p0.toUInt32 >>> ((2 : Int32) &&& 31).toUInt32).toInt32) &&& (3 : Int32))), (.ref b1)]) _
      refine st810 _ ?_
      show Sp p e below T810 (mkF m 52 (lt32 p0 s1 s2 p3 p4 b1 al6) []) _
      refine XS.iloadN X810.here hx rfl (hb hby at_52) rfl ?_
      refine XS.bipush X810.here hx rfl (hb hby at_53) ?_
      show Sp p e below T810 (mkF m 55 (lt32 p0 s1 s2 p3 p4 b1 al6) [(.int (32 : Int32)), (.int p0)]) _
      refine XS.iand X810.here hx rfl (hb hby at_55) rfl ?_
      show Sp p e below T810 (mkF m 56 (lt32 p0 s1 s2 p3 p4 b1 al6) [(.int (p0 &&& (32 : Int32)))]) _
      exact kt
    by_cases hc813 : (p0 &&& (32 : Int32)) = (0 : Int32)
    · rw [own_eqT hc813] at hf811
      have pre814 : Cm p e below E0 (T810.setTop (mkF m 66 (lt32 p0 s1 s2 p3 p4 b1 al6) [])) := fun t kt => by
        refine pre812 t ?_
        show Sp p e below T810 (mkF m 56 (lt32 p0 s1 s2 p3 p4 b1 al6) [(.int (p0 &&& (32 : Int32)))]) _
        refine XS.ifYes X810.here hx rfl (pc0 := 56) (pc' := 66) rfl (hb hby at_56) rfl ((if0 _ _).trans (teq hc813).1) (by decide) (by decide) ?_
        show Sp p e below T810 (mkF m 66 (lt32 p0 s1 s2 p3 p4 b1 al6) []) _
        exact kt
      exact j66 M810 p0 s1 s2 (.val (.int p3)) (.val (.int p4)) (.val (.int al6)) u1 u2 (Or.inr ⟨_, rfl, rfl⟩) (Or.inr ⟨_, rfl, rfl⟩) (Or.inr ⟨_, rfl, rfl⟩) T810 _ _ X810 rfl O810 N810 B810 hf811 pre814
    · rw [own_eqF hc813] at hf811
      obtain ⟨v944, M944, hc944, hf945⟩ := own_bnd hf811
      clear hf811
      obtain ⟨cq944, kq944, q944a, q944b, q944c⟩ := isOf hZ rfl B810.exa
      obtain ⟨_, _, ⟨T944, L944, k944, n944⟩, -, X944, ⟨Lc944, hQ944, l944, y944, z944⟩, st944⟩ := X810.virtualBack hx (y := Y50) (z := Y50) hown (mvT hZ (hw _ (tk 139 rfl))) (mvT hZ (hw _ (tk 140 rfl))) (notFace_of_selects (args := #[]) (mvT hZ (hw _ (tk 142 rfl)))) (mvT hZ (hw _ (tk 142 rfl))) (mvT hZ (hw _ (tk 141 rfl))) (by decide) (backOf (W := 0) (rm24 l Z a0 hw [] hSl false b1 A K S0 4 M810 al6 v944 M944 T810.heap n0 O810 B810 hc944) hZ (hw _ (tk 143 rfl)) (hw _ (tk 2 rfl)) (by decide) (by decide)) q944a q944c (g := (mkF m 63 (lt32 p0 s1 s2 p3 p4 b1 al6) [(.int al6), (.ref b1)])) rfl (by rw [hml]; rfl) (Steps.refl _) (argsL := [(.int al6)]) (rest := []) (lenOf pd_3 rfl) rfl (by show 2 * 0 + _ ≤ _; exact Nat.le_of_eq rfl) (hb hby at_63) (fun _ _ => ⟨rfl, rfl, (by decide : 16 + 0 ≤ _), (by decide : 113 + 0 ≤ _)⟩)
      dsimp only [Pt.U, Pt.locs, Pt.cells, Pt.slots] at X944 l944 y944 z944 st944 hQ944
      rw [l944, y944, z944] at X944
      obtain ⟨rv944, N944q, O944, B944⟩ := hQ944
      subst rv944
      have N944 := Fr.app N810 N944q
      have pre946 : Cm p e below E0 (T944.setTop (mkF m 66 (lt32 p0 s1 s2 p3 p4 b1 al6) [])) := fun t kt => by
        refine pre812 t ?_
        show Sp p e below T810 (mkF m 56 (lt32 p0 s1 s2 p3 p4 b1 al6) [(.int (p0 &&& (32 : Int32)))]) _
        refine XS.ifNo X810.here hx rfl (hb hby at_56) rfl ((if0 _ _).trans (feq hc813).1) ?_
        show Sp p e below T810 (mkF m 59 (lt32 p0 s1 s2 p3 p4 b1 al6) []) _
        refine XS.aload X810.here hx rfl (hb hby at_59) rfl rfl ?_
        refine XS.iload X810.here hx rfl (hb hby at_61) rfl ?_
        show Sp p e below T810 (mkF m 63 (lt32 p0 s1 s2 p3 p4 b1 al6) [(.int al6), (.ref b1)]) _
        refine st944.trans ?_
        show Sp p e below T944 (mkF m 66 (lt32 p0 s1 s2 p3 p4 b1 al6) []) _
        exact kt
      exact j66 M944 p0 s1 s2 (.val (.int p3)) (.val (.int p4)) (.val (.int al6)) u1 u2 (Or.inr ⟨_, rfl, rfl⟩) (Or.inr ⟨_, rfl, rfl⟩) (Or.inr ⟨_, rfl, rfl⟩) T944 _ _ X944 rfl O944 N944 B944 hf945 pre946
  obtain ⟨v744, M744, hc744, hf745⟩ := own_bnd hf
  clear hf
  obtain ⟨_, _, ⟨T744, L744, k744, n744⟩, -, X744, ⟨Lc744, hQ744, l744, y744, z744⟩, st744⟩ := Jvm.LawKit.callS X341 hx (y := Y40) hown (mvT hZ (hw _ (tk 52 rfl))) (mvT hZ (hw _ (tk 53 rfl))) (mvT hZ (hw _ (tk 54 rfl))) (mvT hZ (hw _ (tk 55 rfl))) (by decide) (backOf (W := 0) (rm6 l Z a0 hw [] hSl false b1 A K S0 4 M0 (p0 &&& (3 : Int32)) p1 p2 v744 M744 T341.heap n0 O341 B341 hc744) hZ (hw _ (tk 55 rfl)) (hw _ (tk 54 rfl)) (by decide) (by decide)) (g := (mkF m 17 (lt10 p0 p1 p2 p3 p4 b1) [(.int p2), (.int p1), (.int (p0 &&& (3 : Int32))), (.ref b1)])) rfl (by rw [hml]; rfl) (argsL := [(.ref b1), (.int (p0 &&& (3 : Int32))), (.int p1), (.int p2)]) (rest := []) (lenOf pd_10 rfl) rfl (by show 2 * 0 + _ ≤ _; exact Nat.le_of_eq rfl) (hb hby at_17) (fun _ _ => ⟨rfl, rfl, (by decide : 16 + 0 ≤ _), (by decide : 113 + 0 ≤ _)⟩)
  dsimp only [Pt.U, Pt.locs, Pt.cells, Pt.slots] at X744 l744 y744 z744 st744 hQ744
  rw [l744, y744, z744] at X744
  obtain ⟨rv744, N744q, O744, B744⟩ := hQ744
  subst rv744
  have N744 := Fr.app N341 N744q
  obtain ⟨v749, M749, hc749, hf750⟩ := own_bnd hf745
  clear hf745
  obtain ⟨cq749, kq749, q749a, q749b, q749c⟩ := isOf hZ rfl B744.exa
  obtain ⟨_, _, ⟨T749, L749, k749, n749⟩, -, X749, ⟨Lc749, hQ749, l749, y749, z749⟩, st749⟩ := X744.virtualBack hx (y := Y41) (z := Y41) hown (mvT hZ (hw _ (tk 57 rfl))) (mvT hZ (hw _ (tk 58 rfl))) (notFace_of_selects (args := #[]) (mvT hZ (hw _ (tk 60 rfl)))) (mvT hZ (hw _ (tk 60 rfl))) (mvT hZ (hw _ (tk 59 rfl))) (by decide) (backOf (W := 0) (rm7 l Z a0 hw [] hSl false b1 A K S0 4 M744 v749 M749 T744.heap n0 O744 B744 hc749) hZ (hw _ (tk 61 rfl)) (hw _ (tk 2 rfl)) (by decide) (by decide)) q749a q749c (g := (mkF m 22 (lt10 p0 p1 p2 p3 p4 b1) [(.ref b1)])) rfl (by rw [hml]; rfl) (Steps.refl _) (argsL := []) (rest := []) (lenOf pd_11 rfl) rfl (by show 2 * 0 + _ ≤ _; exact Nat.le_of_eq rfl) (hb hby at_22) (fun _ _ => ⟨rfl, rfl, (by decide : 16 + 0 ≤ _), (by decide : 113 + 0 ≤ _)⟩)
  dsimp only [Pt.U, Pt.locs, Pt.cells, Pt.slots] at X749 l749 y749 z749 st749 hQ749
  rw [l749, y749, z749] at X749
  obtain ⟨rv749, N749q, O749, B749⟩ := hQ749
  subst rv749
  have N749 := Fr.app N744 N749q
  have pre751 : Cm p e below E0 (T749.setTop (mkF m 31 (lt27 p0 p1 p2 p3 p4 b1 v749) [(.int (p0 &&& (16 : Int32)))])) := fun t kt => by
    refine pre0 t ?_
    show Sp p e below s₁ (mkF m 0 (lt1 p0 p1 p2 p3 p4) []) _
    refine st1 _ ?_
    show Sp p e below T1 (mkF m 3 (lt1 p0 p1 p2 p3 p4) [(.ref b1)]) _
    refine XS.dup X1.here hx rfl (hb hby at_3) rfl rfl ?_
    refine XS.iconst X1.here hx rfl (hb hby at_4) ?_
    show Sp p e below T1 (mkF m 5 (lt1 p0 p1 p2 p3 p4) [(.int (4 : Int32)), (.ref b1), (.ref b1)]) _
    refine st341.trans ?_
    show Sp p e below T341 (mkF m 8 (lt1 p0 p1 p2 p3 p4) [(.ref b1)]) _
    refine XS.astore X341.here hx rfl (hb hby at_8) rfl rfl (l' := (lt10 p0 p1 p2 p3 p4 b1)) rfl ?_
    refine XS.aload X341.here hx rfl (hb hby at_10) rfl rfl ?_
    show Sp p e below T341 (mkF m 12 (lt10 p0 p1 p2 p3 p4 b1) [(.ref b1)]) _
    refine XS.iloadN X341.here hx rfl (hb hby at_12) rfl ?_
    refine XS.iconst X341.here hx rfl (hb hby at_13) ?_
    show Sp p e below T341 (mkF m 14 (lt10 p0 p1 p2 p3 p4 b1) [(.int (3 : Int32)), (.int p0), (.ref b1)]) _
    refine XS.iand X341.here hx rfl (hb hby at_14) rfl ?_
    refine XS.iloadN X341.here hx rfl (hb hby at_15) rfl ?_
    show Sp p e below T341 (mkF m 16 (lt10 p0 p1 p2 p3 p4 b1) [(.int p1), (.int (p0 &&& (3 : Int32))), (.ref b1)]) _
    refine XS.iloadN X341.here hx rfl (hb hby at_16) rfl ?_
    show Sp p e below T341 (mkF m 17 (lt10 p0 p1 p2 p3 p4 b1) [(.int p2), (.int p1), (.int (p0 &&& (3 : Int32))), (.ref b1)]) _
    refine st744 _ ?_
    show Sp p e below T744 (mkF m 20 (lt10 p0 p1 p2 p3 p4 b1) []) _
    refine XS.aload X744.here hx rfl (hb hby at_20) rfl rfl ?_
    show Sp p e below T744 (mkF m 22 (lt10 p0 p1 p2 p3 p4 b1) [(.ref b1)]) _
    refine st749.trans ?_
    show Sp p e below T749 (mkF m 25 (lt10 p0 p1 p2 p3 p4 b1) [(.int v749)]) _
    refine XS.istore X749.here hx rfl (hb hby at_25) rfl (l' := (lt27 p0 p1 p2 p3 p4 b1 v749)) rfl ?_
    refine XS.iloadN X749.here hx rfl (hb hby at_27) rfl ?_
    show Sp p e below T749 (mkF m 28 (lt27 p0 p1 p2 p3 p4 b1 v749) [(.int p0)]) _
    refine XS.bipush X749.here hx rfl (hb hby at_28) ?_
    refine XS.iand X749.here hx rfl (hb hby at_30) rfl ?_
    show Sp p e below T749 (mkF m 31 (lt27 p0 p1 p2 p3 p4 b1 v749) [(.int (p0 &&& (16 : Int32)))]) _
    exact kt
  by_cases hc752 : (p0 &&& (16 : Int32)) = (0 : Int32)
  · rw [own_eqT hc752] at hf750
    have pre753 : Cm p e below E0 (T749.setTop (mkF m 39 (lt27 p0 p1 p2 p3 p4 b1 v749) [])) := fun t kt => by
      refine pre751 t ?_
      show Sp p e below T749 (mkF m 31 (lt27 p0 p1 p2 p3 p4 b1 v749) [(.int (p0 &&& (16 : Int32)))]) _
      refine XS.ifYes X749.here hx rfl (pc0 := 31) (pc' := 39) rfl (hb hby at_31) rfl ((if0 _ _).trans (teq hc752).1) (by decide) (by decide) ?_
      show Sp p e below T749 (mkF m 39 (lt27 p0 p1 p2 p3 p4 b1 v749) []) _
      exact kt
    exact j39 M749 p0 p3 p4 v749 (.val (.int p1)) (.val (.int p2)) (Or.inr ⟨_, rfl, rfl⟩) (Or.inr ⟨_, rfl, rfl⟩) T749 _ _ X749 rfl O749 N749 B749 hf750 pre753
  · rw [own_eqF hc752] at hf750
    obtain ⟨v807, M807, hc807, hf808⟩ := own_bnd hf750
    clear hf750
    obtain ⟨cq807, kq807, q807a, q807b, q807c⟩ := isOf hZ rfl B749.exa
    obtain ⟨_, _, ⟨T807, L807, k807, n807⟩, -, X807, ⟨Lc807, hQ807, l807, y807, z807⟩, st807⟩ := X749.virtualBack hx (y := Y47) (z := Y47) hown (mvT hZ (hw _ (tk 64 rfl))) (mvT hZ (hw _ (tk 65 rfl))) (notFace_of_selects (args := #[]) (mvT hZ (hw _ (tk 67 rfl)))) (mvT hZ (hw _ (tk 67 rfl))) (mvT hZ (hw _ (tk 66 rfl))) (by decide) (backOf (W := 0) (rm8 l Z a0 hw [] hSl false b1 A K S0 4 M749 v807 M807 T749.heap n0 O749 B749 hc807) hZ (hw _ (tk 68 rfl)) (hw _ (tk 2 rfl)) (by decide) (by decide)) q807a q807c (g := (mkF m 36 (lt27 p0 p1 p2 p3 p4 b1 v749) [(.ref b1)])) rfl (by rw [hml]; rfl) (Steps.refl _) (argsL := []) (rest := []) (lenOf pd_8 rfl) rfl (by show 2 * 0 + _ ≤ _; exact Nat.le_of_eq rfl) (hb hby at_36) (fun _ _ => ⟨rfl, rfl, (by decide : 16 + 0 ≤ _), (by decide : 113 + 0 ≤ _)⟩)
    dsimp only [Pt.U, Pt.locs, Pt.cells, Pt.slots] at X807 l807 y807 z807 st807 hQ807
    rw [l807, y807, z807] at X807
    obtain ⟨rv807, N807q, O807, B807⟩ := hQ807
    subst rv807
    have N807 := Fr.app N749 N807q
    have pre809 : Cm p e below E0 (T807.setTop (mkF m 39 (lt27 p0 p1 p2 p3 p4 b1 v749) [])) := fun t kt => by
      refine pre751 t ?_
      show Sp p e below T749 (mkF m 31 (lt27 p0 p1 p2 p3 p4 b1 v749) [(.int (p0 &&& (16 : Int32)))]) _
      refine XS.ifNo X749.here hx rfl (hb hby at_31) rfl ((if0 _ _).trans (feq hc752).1) ?_
      show Sp p e below T749 (mkF m 34 (lt27 p0 p1 p2 p3 p4 b1 v749) []) _
      refine XS.aload X749.here hx rfl (hb hby at_34) rfl rfl ?_
      show Sp p e below T749 (mkF m 36 (lt27 p0 p1 p2 p3 p4 b1 v749) [(.ref b1)]) _
      refine st807.trans ?_
      show Sp p e below T807 (mkF m 39 (lt27 p0 p1 p2 p3 p4 b1 v749) []) _
      exact kt
    exact j39 M807 p0 p3 p4 v749 (.val (.int p1)) (.val (.int p2)) (Or.inr ⟨_, rfl, rfl⟩) (Or.inr ⟨_, rfl, rfl⟩) T807 _ _ X807 rfl O807 N807 B807 hf808 pre809

set_option maxRecDepth 65536 in
set_option maxHeartbeats 40000000 in
theorem comes_1 {Post : Tables → Env → Array Value → State → Outcome → State → Prop} (hpost : ∀ tb e args s v u, (limb_1_1.after args s (.returned v) u = true ∧ limb_1_2.after args s (.returned v) u = true ∧ True) → FrameEnd s (.returned v) u (Jvm.fieldLocs frame_1_writes args s ++ Jvm.arrayLocs frame_1_arrays args s ++ Jvm.staticLocs frame_1_statics s) 48 320 → Post tb e args s (.returned v) u) :
    ArmFor flags0 classFile x code maxLocals ret World_1 tables_1 room_1 Calls_1 rest_1 Pre_1 Post := by
  intro l hfl _ _ p e ha hc hk s m args below hf hA hF happ hP
  obtain ⟨hcalls, hrest, hpre⟩ := hP
  obtain ⟨-, -, -, hnamed, -, -, -, hat⟩ := (Spec.applies_iff hf).mp happ
  obtain ⟨hg, hn⟩ := and_e (Cond.before_iff.mp (show (Jvm.Cond.and given_1 narrow_1).before args s = true from hpre))
  obtain ⟨g1124, g1125⟩ := and_e hg
  obtain ⟨g1126, g1127⟩ := and_e g1125
  obtain ⟨g1128, g1129⟩ := and_e g1127
  obtain ⟨g1130, g1131⟩ := and_e g1129
  obtain ⟨g1132, g1133⟩ := and_e g1131
  obtain ⟨w0, w1, w2, w3, w4, rfl⟩ : ∃ w0 w1 w2 w3 w4 : Value, args = #[w0, w1, w2, w3, w4] := by
    have hs : args.size = 5 := by simpa [Cond.value, given_1] using g1124
    obtain ⟨L⟩ := args
    match L, hs with
    | [w0, w1, w2, w3, w4], _ => exact ⟨w0, w1, w2, w3, w4, rfl⟩
  have hw := fun d (hd : d ∈ tables_1) => atoms_spec (ws := Jvm.Cond.code x code maxLocals ret :: tables_1) hat d (List.mem_cons_of_mem _ hd)
  have hfit : Fit s := fun {y c} hc i hi => by
    obtain ⟨ha, rfl⟩ := Array.getElem?_eq_some_iff.mp hc
    have q := List.all_eq_true.mp ((Array.all_eq_true_iff_forall_mem.mp hF) _ (Array.getElem_mem ha)) i (List.mem_range.mpr hi)
    simpa [Array.getElem?_eq_getElem hi] using q
  obtain ⟨i0, ei0⟩ := is_v g1126
  obtain rfl : w0 = (.int i0) := Option.some.inj ei0
  obtain ⟨i1, ei1⟩ := is_v g1128
  obtain rfl : w1 = (.int i1) := Option.some.inj ei1
  obtain ⟨i2, ei2⟩ := is_v g1130
  obtain rfl : w2 = (.int i2) := Option.some.inj ei2
  obtain ⟨i3, ei3⟩ := is_v g1132
  obtain rfl : w3 = (.int i3) := Option.some.inj ei3
  obtain ⟨i4, ei4⟩ := is_v g1133
  obtain rfl : w4 = (.int i4) := Option.some.inj ei4
  have hS : StF s := trivial
  obtain ⟨n, o, h1, h2, h3, _, L, rfl, ⟨hv, N, -⟩, hq⟩ := rm0 l s _ hw tables_1 hS i0 i1 i2 i3 i4 s.heap s.heap.size (Old.start s) p e ha hc hk s m _ below hf ((Spec.applies_iff_loose hf).mp happ).1 ⟨rfl, State.Warmed39.refl s, rfl⟩ trivial
  subst hv
  refine ⟨n, _, h1, h2, h3, hpost _ _ _ _ _ _ ⟨Cond.after_iff.mpr rfl, Cond.after_iff.mpr (eq_i res_at (Term.int_eval (1)) rfl), trivial⟩ ⟨hq.1, hq.2.1, (hq.2.2.sift fun y hy => Or.inr (N y hy)).mono (by decide) (by decide)⟩⟩
theorem main_1_1 : Claimed_1_1 := comes_1 fun _ _ _ _ _ _ h hF => ⟨h.1, hF⟩
theorem main_1_2 : Claimed_1_2 := comes_1 fun _ _ _ _ _ _ h hF => ⟨h.2.1, hF⟩
end Jvm.Pilot.@@N@@
namespace Jvm.Pilot.@@N@@
open Jvm Jvm.ClassFile Sem Op Lib Jvm.Free Jvm.Stand Jvm.Pilot.@@N@@.Jvm.D
/-! MADE BY PROGRAM (witnessworld.py) out of the Statement's table words and the real class files: 13 classes; the members and pool entries that the words name. The judged class is class 1, her method 1. -/
namespace start1
open Jvm.ClassFile
def u (s : String) : CpInfo := .utf8 (stringToUtf16 s)
/-- a pool by its gaps: so many unusable entries, then the entry; so many at the end -/
def gap : Nat → List CpInfo → List CpInfo
  | 0, r => r
  | n + 1, r => .unusable :: gap n r
def poolList (es : List (Nat × CpInfo)) (last : Nat) : List CpInfo := es.foldr (fun e r => gap e.1 (e.2 :: r)) (gap last [])
def pool (es : List (Nat × CpInfo)) (last : Nat) : Array CpInfo := ⟨poolList es last⟩
def fileOf (pool : Array CpInfo) (this : Nat) (attrs : Array Attribute := #[]) (ms : Array MethodInfo := #[]) (fl : Nat := 33) (sup : Nat := 0) (ifs : Array Nat := #[]) (fds : Array FieldInfo := #[]) : ClassFile where
  minorVersion := 0
  majorVersion := 65
  constantPool := pool
  accessFlags := fl
  thisClass := this
  superClass := sup
  interfaces := ifs
  fields := fds
  methods := ms
  attributes := attrs
def plain (name : String) (sup : Option ClassId) : Class where
  name := name
  kind := .ordinary
  loader := none
  accessFlags := 33
  super := sup
  interfaces := #[]
  cf := none
  fields := #[]
  methods := #[]
  instanceTypes := #[]
  staticTypes := #[]
  resolved := #[]
  callSites := []
  init := .initialized
  statics := none
  mirror := none

def pool0 : Array CpInfo := pool [(5, u "<init>"), (0, u "()V"), (1, .class_ 10), (1, u "java/lang/Object")] 113

def k0c0 : Code := { maxStack := 0, maxLocals := 1, code := object_method_1_code, exceptionTable := #[], attributes := #[] }
def k0m0 : Method := { name := "<init>", desc := "()V", sig := { parameters := [], returnType := none }, accessFlags := 1, code := some k0c0 }
/-- java/lang/Object -/
def k0 : Class := { plain "java/lang/Object" none with
  accessFlags := 33
  interfaces := #[]
  cf := some (fileOf pool0 8 #[] #[{ accessFlags := 1, nameIndex := 5, descriptorIndex := 6, attributes := #[] }] 33 0 #[] #[])
  fields := #[]
  methods := #[k0m0]
  instanceTypes := #[]
  staticTypes := #[]
  resolved := Array.replicate 124 none
  statics := none }

def pool1 : Array CpInfo := pool [(2, .class_ 4), (1, u "java/lang/Object"), (0, u "<init>"), (0, u "()V"), (0, .class_ 8), (0, u "com/example/onetree/onetree/EdgeStates"), (0, .methodref 7 10), (0, .nameAndType 5 11), (0, u "(I)V"), (0, .methodref 13 14), (0, .class_ 15), (0, .nameAndType 16 17), (0, u "com/example/onetree/onetree/EdgeStatesListNeighboursPinLaw"), (0, u "apply"), (0, u "(Lcom/example/onetree/onetree/EdgeStates;III)V"), (0, .methodref 7 19), (0, .nameAndType 20 21), (0, u "mark"), (0, u "()I"), (0, .methodref 7 23), (0, .nameAndType 24 6), (0, u "listNeighbours"), (0, .methodref 7 26), (0, .nameAndType 27 11), (0, u "undo"), (0, .methodref 7 29), (0, .nameAndType 30 31), (0, u "firstNeighbour"), (0, u "(I)I"), (0, .methodref 7 33), (0, .nameAndType 34 31), (0, u "endOfNeighbours"), (0, .methodref 13 36), (0, .nameAndType 37 38), (0, u "city"), (0, u "(Lcom/example/onetree/onetree/EdgeStates;I)Z"), (0, .integer 2147483647), (0, .methodref 7 41), (0, .nameAndType 42 43), (0, u "remove"), (0, u "(II)Z"), (0, .methodref 7 45), (0, .nameAndType 46 43), (0, u "force"), (0, .methodref 7 48), (0, .nameAndType 49 50), (0, u "state"), (0, u "(II)B"), (0, .methodref 13 52), (0, .nameAndType 53 54), (0, u "add"), (0, u "([IILcom/example/onetree/onetree/EdgeStates;II)I"), (0, .methodref 7 56), (0, .nameAndType 57 31), (0, u "neighbour"), (2, u "law"), (0, u "(IIIII)Z")] 5

def k1m0 : Method := { name := "<init>", desc := "()V", sig := { parameters := [], returnType := none }, accessFlags := 1, code := none }
def k1c1 : Code := { maxStack := 4, maxLocals := 7, code := code, exceptionTable := #[], attributes := #[] }
def k1m1 : Method := { name := "law", desc := "(IIIII)Z", sig := { parameters := [.int, .int, .int, .int, .int], returnType := some .boolean }, accessFlags := 9, code := some k1c1 }
def k1c2 : Code := { maxStack := 3, maxLocals := 6, code := method_3_code, exceptionTable := #[], attributes := #[] }
def k1m2 : Method := { name := "apply", desc := "(Lcom/example/onetree/onetree/EdgeStates;III)V", sig := { parameters := [(.object "com/example/onetree/onetree/EdgeStates"), .int, .int, .int], returnType := none }, accessFlags := 10, code := some k1c2 }
def k1c3 : Code := { maxStack := 3, maxLocals := 5, code := method_4_code, exceptionTable := #[], attributes := #[] }
def k1m3 : Method := { name := "add", desc := "([IILcom/example/onetree/onetree/EdgeStates;II)I", sig := { parameters := [(.array .int), .int, (.object "com/example/onetree/onetree/EdgeStates"), .int, .int], returnType := some .int }, accessFlags := 10, code := some k1c3 }
def k1c4 : Code := { maxStack := 5, maxLocals := 5, code := method_5_code, exceptionTable := #[], attributes := #[] }
def k1m4 : Method := { name := "city", desc := "(Lcom/example/onetree/onetree/EdgeStates;I)Z", sig := { parameters := [(.object "com/example/onetree/onetree/EdgeStates"), .int], returnType := some .boolean }, accessFlags := 10, code := some k1c4 }
/-- com/example/onetree/onetree/EdgeStatesListNeighboursPinLaw -/
def k1 : Class := { plain "com/example/onetree/onetree/EdgeStatesListNeighboursPinLaw" (some 0) with
  accessFlags := 49
  interfaces := #[]
  cf := some (fileOf pool1 13 #[] #[{ accessFlags := 1, nameIndex := 5, descriptorIndex := 6, attributes := #[] }, { accessFlags := 9, nameIndex := 60, descriptorIndex := 61, attributes := #[] }, { accessFlags := 10, nameIndex := 16, descriptorIndex := 17, attributes := #[] }, { accessFlags := 10, nameIndex := 53, descriptorIndex := 54, attributes := #[] }, { accessFlags := 10, nameIndex := 37, descriptorIndex := 38, attributes := #[] }] 49 2 #[] #[])
  fields := #[]
  methods := #[k1m0, k1m1, k1m2, k1m3, k1m4]
  instanceTypes := #[]
  staticTypes := #[]
  resolved := Array.replicate 67 none
  statics := none }

def pool2 : Array CpInfo := pool [(5, .methodref 6 7), (0, .class_ 8), (0, .nameAndType 9 10), (0, u "com/example/onetree/onetree/EdgeStates"), (0, u "<init>"), (0, u "(ILcom/example/onetree/onetree/Instance;)V"), (5, u "()I"), (0, .methodref 18 19), (0, .class_ 20), (0, .nameAndType 9 21), (0, u "java/lang/Object"), (0, u "()V"), (0, .fieldref 6 23), (0, .nameAndType 24 25), (0, u "cities"), (0, u "I"), (0, .class_ 27), (0, u "[I"), (2, u "fixedEdges"), (1, .fieldref 6 33), (0, .nameAndType 30 34), (0, u "[[I"), (0, .class_ 36), (0, u "[[B"), (0, .fieldref 6 38), (0, .nameAndType 39 36), (0, u "states"), (0, .fieldref 6 41), (0, .nameAndType 42 27), (0, u "forcedDegree"), (0, .fieldref 6 44), (0, .nameAndType 45 27), (0, u "openDegree"), (0, .methodref 47 48), (0, .class_ 49), (0, .nameAndType 50 51), (0, u "java/util/Arrays"), (0, u "fill"), (0, u "([II)V"), (3, u "(II)Z"), (0, .long 2), (1, .long 6), (1, .methodref 61 62), (0, .class_ 63), (0, .nameAndType 64 65), (0, u "java/lang/Math"), (0, u "toIntExact"), (0, u "(J)I"), (0, .fieldref 6 67), (0, .nameAndType 68 27), (0, u "trail"), (0, .fieldref 6 70), (0, .nameAndType 71 27), (0, u "otherEnd"), (0, .fieldref 6 73), (0, .nameAndType 74 27), (0, u "pathSize"), (0, .fieldref 6 76), (0, .nameAndType 77 27), (0, u "pending"), (0, .fieldref 6 79), (0, .nameAndType 80 81), (0, u "isPending"), (0, u "[Z"), (0, .fieldref 6 83), (0, .nameAndType 84 27), (0, u "listStart"), (0, .fieldref 6 86), (0, .nameAndType 87 27), (0, u "neighbours"), (3, u "(I)I"), (5, u "(I)Z"), (0, .methodref 6 99), (0, .nameAndType 100 55), (0, u "setForced"), (0, .methodref 6 102), (0, .nameAndType 103 21), (0, u "clearPending"), (0, .methodref 6 105), (0, .nameAndType 106 107), (0, u "enqueue"), (0, u "(I)V"), (0, .methodref 6 109), (0, .nameAndType 110 111), (0, u "propagate"), (0, u "()Z"), (0, .methodref 6 113), (0, .nameAndType 114 55), (0, u "setRemoved"), (0, .fieldref 6 116), (0, .nameAndType 117 118), (0, u "listed"), (0, u "Z"), (0, .fieldref 6 120), (0, .nameAndType 121 25), (0, u "trailSize"), (0, .methodref 6 123), (0, .nameAndType 124 125), (0, u "setState"), (0, u "(IIB)V"), (0, .methodref 6 127), (0, .nameAndType 128 129), (0, u "setPathEnd"), (0, u "(III)V"), (0, .fieldref 6 131), (0, .nameAndType 132 25), (0, u "pendingCount"), (0, .fieldref 6 134), (0, .nameAndType 135 25), (0, u "pendingHead"), (0, .methodref 6 137), (0, .nameAndType 138 97), (0, u "applyDegreeRules"), (12, u "MOST_CITIES"), (0, u "FREE"), (0, u "B"), (2, u "FORCED"), (1, u "REMOVED"), (1, u "PAIR_BYTES"), (0, u "END_BYTES"), (1, u "LONGEST_ARRAY"), (6, u "state"), (0, u "(II)B"), (4, u "force"), (0, u "remove"), (0, u "listNeighbours"), (2, u "firstNeighbour"), (0, u "endOfNeighbours"), (0, u "neighbour"), (0, u "mark"), (0, u "undo")] 3

def k2c0 : Code := { maxStack := 3, maxLocals := 2, code := prog_7_method_1_code, exceptionTable := #[], attributes := #[] }
def k2m0 : Method := { name := "<init>", desc := "(I)V", sig := { parameters := [.int], returnType := none }, accessFlags := 0, code := some k2c0 }
def k2c1 : Code := { maxStack := 7, maxLocals := 7, code := prog_7_method_3_code, exceptionTable := #[], attributes := #[] }
def k2m1 : Method := { name := "<init>", desc := "(ILcom/example/onetree/onetree/Instance;)V", sig := { parameters := [.int, (.object "com/example/onetree/onetree/Instance")], returnType := none }, accessFlags := 2, code := some k2c1 }
def k2c2 : Code := { maxStack := 2, maxLocals := 3, code := prog_7_method_4_code, exceptionTable := #[], attributes := #[] }
def k2m2 : Method := { name := "state", desc := "(II)B", sig := { parameters := [.int, .int], returnType := some .byte }, accessFlags := 0, code := some k2c2 }
def k2c3 : Code := { maxStack := 3, maxLocals := 3, code := prog_7_method_12_code, exceptionTable := #[], attributes := #[] }
def k2m3 : Method := { name := "force", desc := "(II)Z", sig := { parameters := [.int, .int], returnType := some .boolean }, accessFlags := 0, code := some k2c3 }
def k2c4 : Code := { maxStack := 3, maxLocals := 3, code := prog_7_method_13_code, exceptionTable := #[], attributes := #[] }
def k2m4 : Method := { name := "remove", desc := "(II)Z", sig := { parameters := [.int, .int], returnType := some .boolean }, accessFlags := 0, code := some k2c4 }
def k2c5 : Code := { maxStack := 3, maxLocals := 5, code := prog_7_method_14_code, exceptionTable := #[], attributes := #[] }
def k2m5 : Method := { name := "listNeighbours", desc := "()V", sig := { parameters := [], returnType := none }, accessFlags := 0, code := some k2c5 }
def k2c6 : Code := { maxStack := 2, maxLocals := 2, code := prog_7_method_15_code, exceptionTable := #[], attributes := #[] }
def k2m6 : Method := { name := "firstNeighbour", desc := "(I)I", sig := { parameters := [.int], returnType := some .int }, accessFlags := 0, code := some k2c6 }
def k2c7 : Code := { maxStack := 3, maxLocals := 2, code := prog_7_method_16_code, exceptionTable := #[], attributes := #[] }
def k2m7 : Method := { name := "endOfNeighbours", desc := "(I)I", sig := { parameters := [.int], returnType := some .int }, accessFlags := 0, code := some k2c7 }
def k2c8 : Code := { maxStack := 2, maxLocals := 2, code := prog_7_method_17_code, exceptionTable := #[], attributes := #[] }
def k2m8 : Method := { name := "neighbour", desc := "(I)I", sig := { parameters := [.int], returnType := some .int }, accessFlags := 0, code := some k2c8 }
def k2c9 : Code := { maxStack := 1, maxLocals := 1, code := prog_7_method_18_code, exceptionTable := #[], attributes := #[] }
def k2m9 : Method := { name := "mark", desc := "()I", sig := { parameters := [], returnType := some .int }, accessFlags := 0, code := some k2c9 }
def k2c10 : Code := { maxStack := 5, maxLocals := 5, code := prog_7_method_19_code, exceptionTable := #[], attributes := #[] }
def k2m10 : Method := { name := "undo", desc := "(I)V", sig := { parameters := [.int], returnType := none }, accessFlags := 0, code := some k2c10 }
def k2c11 : Code := { maxStack := 4, maxLocals := 7, code := prog_7_method_20_code, exceptionTable := #[], attributes := #[] }
def k2m11 : Method := { name := "setForced", desc := "(II)Z", sig := { parameters := [.int, .int], returnType := some .boolean }, accessFlags := 2, code := some k2c11 }
def k2c12 : Code := { maxStack := 4, maxLocals := 4, code := prog_7_method_21_code, exceptionTable := #[], attributes := #[] }
def k2m12 : Method := { name := "setRemoved", desc := "(II)Z", sig := { parameters := [.int, .int], returnType := some .boolean }, accessFlags := 2, code := some k2c12 }
def k2c13 : Code := { maxStack := 3, maxLocals := 2, code := prog_7_method_22_code, exceptionTable := #[], attributes := #[] }
def k2m13 : Method := { name := "propagate", desc := "()Z", sig := { parameters := [], returnType := some .boolean }, accessFlags := 2, code := some k2c13 }
def k2c14 : Code := { maxStack := 3, maxLocals := 1, code := prog_7_method_23_code, exceptionTable := #[], attributes := #[] }
def k2m14 : Method := { name := "clearPending", desc := "()V", sig := { parameters := [], returnType := none }, accessFlags := 2, code := some k2c14 }
def k2c15 : Code := { maxStack := 3, maxLocals := 5, code := prog_7_method_24_code, exceptionTable := #[], attributes := #[] }
def k2m15 : Method := { name := "applyDegreeRules", desc := "(I)Z", sig := { parameters := [.int], returnType := some .boolean }, accessFlags := 2, code := some k2c15 }
def k2c16 : Code := { maxStack := 5, maxLocals := 4, code := prog_7_method_25_code, exceptionTable := #[], attributes := #[] }
def k2m16 : Method := { name := "setState", desc := "(IIB)V", sig := { parameters := [.int, .int, .byte], returnType := none }, accessFlags := 2, code := some k2c16 }
def k2c17 : Code := { maxStack := 5, maxLocals := 4, code := prog_7_method_26_code, exceptionTable := #[], attributes := #[] }
def k2m17 : Method := { name := "setPathEnd", desc := "(III)V", sig := { parameters := [.int, .int, .int], returnType := none }, accessFlags := 2, code := some k2c17 }
def k2c18 : Code := { maxStack := 3, maxLocals := 2, code := prog_7_method_27_code, exceptionTable := #[], attributes := #[] }
def k2m18 : Method := { name := "enqueue", desc := "(I)V", sig := { parameters := [.int], returnType := none }, accessFlags := 2, code := some k2c18 }
/-- com/example/onetree/onetree/EdgeStates -/
def k2 : Class := { plain "com/example/onetree/onetree/EdgeStates" (some 0) with
  accessFlags := 48
  interfaces := #[]
  cf := some (fileOf pool2 6 #[] #[{ accessFlags := 0, nameIndex := 9, descriptorIndex := 107, attributes := #[] }, { accessFlags := 2, nameIndex := 9, descriptorIndex := 10, attributes := #[] }, { accessFlags := 0, nameIndex := 170, descriptorIndex := 171, attributes := #[] }, { accessFlags := 0, nameIndex := 176, descriptorIndex := 55, attributes := #[] }, { accessFlags := 0, nameIndex := 177, descriptorIndex := 55, attributes := #[] }, { accessFlags := 0, nameIndex := 178, descriptorIndex := 21, attributes := #[] }, { accessFlags := 0, nameIndex := 181, descriptorIndex := 91, attributes := #[] }, { accessFlags := 0, nameIndex := 182, descriptorIndex := 91, attributes := #[] }, { accessFlags := 0, nameIndex := 183, descriptorIndex := 91, attributes := #[] }, { accessFlags := 0, nameIndex := 184, descriptorIndex := 16, attributes := #[] }, { accessFlags := 0, nameIndex := 185, descriptorIndex := 107, attributes := #[] }, { accessFlags := 2, nameIndex := 100, descriptorIndex := 55, attributes := #[] }, { accessFlags := 2, nameIndex := 114, descriptorIndex := 55, attributes := #[] }, { accessFlags := 2, nameIndex := 110, descriptorIndex := 111, attributes := #[] }, { accessFlags := 2, nameIndex := 103, descriptorIndex := 21, attributes := #[] }, { accessFlags := 2, nameIndex := 138, descriptorIndex := 97, attributes := #[] }, { accessFlags := 2, nameIndex := 124, descriptorIndex := 125, attributes := #[] }, { accessFlags := 2, nameIndex := 128, descriptorIndex := 129, attributes := #[] }, { accessFlags := 2, nameIndex := 106, descriptorIndex := 107, attributes := #[] }] 48 18 #[] #[{ accessFlags := 24, nameIndex := 152, descriptorIndex := 153, attributes := #[] }, { accessFlags := 24, nameIndex := 156, descriptorIndex := 153, attributes := #[] }, { accessFlags := 24, nameIndex := 158, descriptorIndex := 153, attributes := #[] }, { accessFlags := 24, nameIndex := 160, descriptorIndex := 25, attributes := #[] }, { accessFlags := 24, nameIndex := 161, descriptorIndex := 25, attributes := #[] }, { accessFlags := 26, nameIndex := 163, descriptorIndex := 25, attributes := #[] }, { accessFlags := 24, nameIndex := 151, descriptorIndex := 25, attributes := #[] }, { accessFlags := 18, nameIndex := 24, descriptorIndex := 25, attributes := #[] }, { accessFlags := 18, nameIndex := 39, descriptorIndex := 36, attributes := #[] }, { accessFlags := 18, nameIndex := 42, descriptorIndex := 27, attributes := #[] }, { accessFlags := 18, nameIndex := 45, descriptorIndex := 27, attributes := #[] }, { accessFlags := 18, nameIndex := 71, descriptorIndex := 27, attributes := #[] }, { accessFlags := 18, nameIndex := 74, descriptorIndex := 27, attributes := #[] }, { accessFlags := 18, nameIndex := 68, descriptorIndex := 27, attributes := #[] }, { accessFlags := 2, nameIndex := 121, descriptorIndex := 25, attributes := #[] }, { accessFlags := 18, nameIndex := 84, descriptorIndex := 27, attributes := #[] }, { accessFlags := 18, nameIndex := 87, descriptorIndex := 27, attributes := #[] }, { accessFlags := 2, nameIndex := 117, descriptorIndex := 118, attributes := #[] }, { accessFlags := 18, nameIndex := 30, descriptorIndex := 34, attributes := #[] }, { accessFlags := 18, nameIndex := 77, descriptorIndex := 27, attributes := #[] }, { accessFlags := 18, nameIndex := 80, descriptorIndex := 81, attributes := #[] }, { accessFlags := 2, nameIndex := 135, descriptorIndex := 25, attributes := #[] }, { accessFlags := 2, nameIndex := 132, descriptorIndex := 25, attributes := #[] }])
  fields := #[{ name := "FREE", type := .byte, accessFlags := 24, slot := 0, constantValue := 0 }, { name := "FORCED", type := .byte, accessFlags := 24, slot := 1, constantValue := 0 }, { name := "REMOVED", type := .byte, accessFlags := 24, slot := 2, constantValue := 0 }, { name := "PAIR_BYTES", type := .int, accessFlags := 24, slot := 3, constantValue := 0 }, { name := "END_BYTES", type := .int, accessFlags := 24, slot := 4, constantValue := 0 }, { name := "LONGEST_ARRAY", type := .int, accessFlags := 26, slot := 5, constantValue := 0 }, { name := "MOST_CITIES", type := .int, accessFlags := 24, slot := 6, constantValue := 0 }, { name := "cities", type := .int, accessFlags := 18, slot := 0, constantValue := 0 }, { name := "states", type := (.array (.array .byte)), accessFlags := 18, slot := 1, constantValue := 0 }, { name := "forcedDegree", type := (.array .int), accessFlags := 18, slot := 2, constantValue := 0 }, { name := "openDegree", type := (.array .int), accessFlags := 18, slot := 3, constantValue := 0 }, { name := "otherEnd", type := (.array .int), accessFlags := 18, slot := 4, constantValue := 0 }, { name := "pathSize", type := (.array .int), accessFlags := 18, slot := 5, constantValue := 0 }, { name := "trail", type := (.array .int), accessFlags := 18, slot := 6, constantValue := 0 }, { name := "trailSize", type := .int, accessFlags := 2, slot := 7, constantValue := 0 }, { name := "listStart", type := (.array .int), accessFlags := 18, slot := 8, constantValue := 0 }, { name := "neighbours", type := (.array .int), accessFlags := 18, slot := 9, constantValue := 0 }, { name := "listed", type := .boolean, accessFlags := 2, slot := 10, constantValue := 0 }, { name := "fixedEdges", type := (.array (.array .int)), accessFlags := 18, slot := 11, constantValue := 0 }, { name := "pending", type := (.array .int), accessFlags := 18, slot := 12, constantValue := 0 }, { name := "isPending", type := (.array .boolean), accessFlags := 18, slot := 13, constantValue := 0 }, { name := "pendingHead", type := .int, accessFlags := 2, slot := 14, constantValue := 0 }, { name := "pendingCount", type := .int, accessFlags := 2, slot := 15, constantValue := 0 }]
  methods := #[k2m0, k2m1, k2m2, k2m3, k2m4, k2m5, k2m6, k2m7, k2m8, k2m9, k2m10, k2m11, k2m12, k2m13, k2m14, k2m15, k2m16, k2m17, k2m18]
  instanceTypes := #[.int, (.array (.array .byte)), (.array .int), (.array .int), (.array .int), (.array .int), (.array .int), .int, (.array .int), (.array .int), .boolean, (.array (.array .int)), (.array .int), (.array .boolean), .int, .int]
  staticTypes := #[.byte, .byte, .byte, .int, .int, .int, .int]
  resolved := Array.replicate 189 none
  statics := none }

def pool3 : Array CpInfo := pool [(2, .class_ 4), (1, u "java/lang/Object"), (0, u "<init>"), (0, u "()V"), (7, .class_ 16), (1, u "java/util/Arrays"), (57, .class_ 76), (1, u "java/util/Arrays$NaturalOrder"), (36, .class_ 115), (1, u "java/util/Arrays$LegacyMergeSort"), (1, u "Z"), (257, .class_ 376), (0, u "java/util/Arrays$ArrayList"), (68, u "$assertionsDisabled"), (269, u "MIN_ARRAY_SORT_GRAN"), (0, u "I"), (2, u "INSERTIONSORT_THRESHOLD"), (120, u "fill"), (4, u "([II)V"), (129, .class_ 976), (0, u "java/util/Arrays$ArrayItr")] 52

def k3m0 : Method := { name := "<init>", desc := "()V", sig := { parameters := [], returnType := none }, accessFlags := 2, code := none }
def k3c1 : Code := { maxStack := 3, maxLocals := 4, code := jdk_65_method_103_code, exceptionTable := #[], attributes := #[] }
def k3m1 : Method := { name := "fill", desc := "([II)V", sig := { parameters := [(.array .int), .int], returnType := none }, accessFlags := 9, code := some k3c1 }
/-- java/util/Arrays -/
def k3 : Class := { plain "java/util/Arrays" (some 0) with
  accessFlags := 49
  interfaces := #[]
  cf := some (fileOf pool3 14 #[.nestMembers #[975, 375, 113, 74]] #[{ accessFlags := 2, nameIndex := 5, descriptorIndex := 6, attributes := #[] }, { accessFlags := 9, nameIndex := 840, descriptorIndex := 845, attributes := #[] }] 49 2 #[] #[{ accessFlags := 26, nameIndex := 715, descriptorIndex := 716, attributes := #[] }, { accessFlags := 26, nameIndex := 719, descriptorIndex := 716, attributes := #[] }, { accessFlags := 4120, nameIndex := 445, descriptorIndex := 117, attributes := #[] }])
  fields := #[{ name := "MIN_ARRAY_SORT_GRAN", type := .int, accessFlags := 26, slot := 0, constantValue := 0 }, { name := "INSERTIONSORT_THRESHOLD", type := .int, accessFlags := 26, slot := 1, constantValue := 0 }, { name := "$assertionsDisabled", type := .boolean, accessFlags := 4120, slot := 2, constantValue := 0 }]
  methods := #[k3m0, k3m1]
  instanceTypes := #[]
  staticTypes := #[.int, .int, .boolean]
  resolved := Array.replicate 1029 none
  statics := none }

def pool4 : Array CpInfo := pool [(1, .class_ 2), (0, u "java/lang/Math"), (1, .class_ 6), (1, u "java/lang/Object"), (0, u "<init>"), (0, u "()V"), (89, .class_ 100), (1, u "java/lang/Math$RandomNumberGeneratorHolder"), (71, u "negativeZeroFloatBits"), (0, u "J"), (2, u "negativeZeroDoubleBits"), (68, u "$assertionsDisabled"), (0, u "Z"), (91, u "twoToTheDoubleScaleDown"), (0, u "D"), (4, u "twoToTheDoubleScaleUp"), (9, u "E"), (3, u "PI"), (2, u "TAU"), (2, u "DEGREES_TO_RADIANS"), (0, u "RADIANS_TO_DEGREES"), (39, u "toIntExact"), (0, u "(J)I")] 53

def k4m0 : Method := { name := "<init>", desc := "()V", sig := { parameters := [], returnType := none }, accessFlags := 2, code := none }
def k4c1 : Code := { maxStack := 4, maxLocals := 2, code := jdk_29_method_43_code, exceptionTable := #[], attributes := #[] }
def k4m1 : Method := { name := "toIntExact", desc := "(J)I", sig := { parameters := [.long], returnType := some .int }, accessFlags := 9, code := some k4c1 }
/-- java/lang/Math -/
def k4 : Class := { plain "java/lang/Math" (some 0) with
  accessFlags := 49
  interfaces := #[]
  cf := some (fileOf pool4 1 #[.nestMembers #[98]] #[{ accessFlags := 2, nameIndex := 7, descriptorIndex := 8, attributes := #[] }, { accessFlags := 9, nameIndex := 405, descriptorIndex := 406, attributes := #[] }] 49 4 #[] #[{ accessFlags := 25, nameIndex := 354, descriptorIndex := 339, attributes := #[] }, { accessFlags := 25, nameIndex := 358, descriptorIndex := 339, attributes := #[] }, { accessFlags := 25, nameIndex := 361, descriptorIndex := 339, attributes := #[] }, { accessFlags := 26, nameIndex := 364, descriptorIndex := 339, attributes := #[] }, { accessFlags := 26, nameIndex := 365, descriptorIndex := 339, attributes := #[] }, { accessFlags := 26, nameIndex := 172, descriptorIndex := 173, attributes := #[] }, { accessFlags := 26, nameIndex := 176, descriptorIndex := 173, attributes := #[] }, { accessFlags := 8, nameIndex := 344, descriptorIndex := 339, attributes := #[] }, { accessFlags := 8, nameIndex := 338, descriptorIndex := 339, attributes := #[] }, { accessFlags := 4120, nameIndex := 245, descriptorIndex := 246, attributes := #[] }])
  fields := #[{ name := "E", type := .double, accessFlags := 25, slot := 0, constantValue := 0 }, { name := "PI", type := .double, accessFlags := 25, slot := 1, constantValue := 0 }, { name := "TAU", type := .double, accessFlags := 25, slot := 2, constantValue := 0 }, { name := "DEGREES_TO_RADIANS", type := .double, accessFlags := 26, slot := 3, constantValue := 0 }, { name := "RADIANS_TO_DEGREES", type := .double, accessFlags := 26, slot := 4, constantValue := 0 }, { name := "negativeZeroFloatBits", type := .long, accessFlags := 26, slot := 5, constantValue := 0 }, { name := "negativeZeroDoubleBits", type := .long, accessFlags := 26, slot := 6, constantValue := 0 }, { name := "twoToTheDoubleScaleUp", type := .double, accessFlags := 8, slot := 7, constantValue := 0 }, { name := "twoToTheDoubleScaleDown", type := .double, accessFlags := 8, slot := 8, constantValue := 0 }, { name := "$assertionsDisabled", type := .boolean, accessFlags := 4120, slot := 9, constantValue := 0 }]
  methods := #[k4m0, k4m1]
  instanceTypes := #[]
  staticTypes := #[.double, .double, .double, .double, .double, .long, .long, .double, .double, .boolean]
  resolved := Array.replicate 460 none
  statics := none }

def pool5 : Array CpInfo := pool [(1, u "java/lang/Cloneable"), (0, .class_ 1), (0, u "java/lang/Object"), (0, .class_ 3)] 3

/-- java/lang/Cloneable -/
def k5 : Class := { plain "java/lang/Cloneable" (some 0) with
  accessFlags := 1537
  interfaces := #[]
  cf := some (fileOf pool5 2 #[] #[] 1537 4 #[] #[])
  fields := #[]
  methods := #[]
  instanceTypes := #[]
  staticTypes := #[]
  resolved := Array.replicate 8 none
  statics := none }

def pool6 : Array CpInfo := pool [(1, u "java/io/Serializable"), (0, .class_ 1), (0, u "java/lang/Object"), (0, .class_ 3)] 3

/-- java/io/Serializable -/
def k6 : Class := { plain "java/io/Serializable" (some 0) with
  accessFlags := 1537
  interfaces := #[]
  cf := some (fileOf pool6 2 #[] #[] 1537 4 #[] #[])
  fields := #[]
  methods := #[]
  instanceTypes := #[]
  staticTypes := #[]
  resolved := Array.replicate 8 none
  statics := none }

/-- the primitive boolean -/
def k7 : Class := { plain "boolean" none with kind := .primitive 'Z', accessFlags := 0x411 }
/-- [Z -/
def k8 : Class := { plain "[Z" (some 0) with kind := .array 7 .boolean, interfaces := #[5, 6], accessFlags := 1041 }

/-- the primitive byte -/
def k9 : Class := { plain "byte" none with kind := .primitive 'B', accessFlags := 0x411 }
/-- [B -/
def k10 : Class := { plain "[B" (some 0) with kind := .array 9 .byte, interfaces := #[5, 6], accessFlags := 1041 }

/-- the primitive int -/
def k11 : Class := { plain "int" none with kind := .primitive 'I', accessFlags := 0x411 }
/-- [I -/
def k12 : Class := { plain "[I" (some 0) with kind := .array 11 .int, interfaces := #[5, 6], accessFlags := 1041 }

def k13 : Class := { plain "[[I" (some 0) with kind := .array 12 (.array .int), interfaces := #[5, 6], accessFlags := 1041 }
def k14 : Class := { plain "[[B" (some 0) with kind := .array 10 (.array .byte), interfaces := #[5, 6], accessFlags := 1041 }
def heap : Heap := #[]
def classes : Array Class := #[k0, k1, k2, k3, k4, k5, k6, k7, k8, k9, k10, k11, k12, k13, k14]
def interned : List (Array UInt16 × Addr) := []
def slotsUsed : Nat := 0
def theMethod : MethodId := ⟨1, 1⟩
def args0 : Array Value := #[.int 5, .int 7, .int 3, .int 2, .int 1]
def aboutOver (below : List Frame) : State where
  vm := { classes := classes, interned := interned.toArray }
  heap := heap
  slotsUsed := slotsUsed
  threads := #[{ frames := .invoking theMethod args0 :: below }]
def below0 : List Frame := [.native { method := ⟨0, 0⟩, args := #[] }]
def about1 : State := aboutOver below0
def p0 : Program := .bare "" "" ""
def e0 : Env := launch0.env 0 0 0
theorem w_frames : about1.frames = Frame.invoking theMethod args0 :: below0 := rfl
set_option maxRecDepth 65536 in
theorem w_args : argsFit about1.vm theMethod args0 = true := by decide +kernel
set_option maxRecDepth 65536 in
theorem w_heap : heapFits about1 = true := by decide +kernel
set_option maxRecDepth 65536 in
theorem w_runnable : about1.curStatus? = some .runnable := by decide +kernel
set_option maxRecDepth 65536 in
theorem w_alone : about1.alone = true := by decide +kernel
set_option maxRecDepth 65536 in
theorem w_named : about1.methodNamed? x = some theMethod := by decide +kernel
set_option maxRecDepth 65536 in
theorem w_hears : about1.hears theMethod below0 = true := by decide +kernel
set_option maxRecDepth 65536 in
theorem w_ripe : about1.ripe theMethod args0 below0 = true := by decide +kernel
theorem w_running : about1.status = .running := rfl
set_option maxRecDepth 65536 in
theorem w_room : about1.hasRoom e0.platform room_1 = true :=
  launch0.hasRoom_least _ room_1 (by decide +kernel) (by decide +kernel) (by decide +kernel) (by decide +kernel) (by decide +kernel) (by decide +kernel)
theorem allAtoms_all (ts : List Jvm.Cond) (a : Array Jvm.Value) (st : Jvm.State) : (allAtoms ts).before a st = ts.all (fun c => c.before a st) := by
  induction ts with
  | nil => rfl
  | cons c t ih =>
    show (Jvm.Cond.and c (allAtoms t)).before a st = _
    rw [Jvm.Cond.before_and, ih, List.all_cons]
def words1 : List Jvm.Cond := Jvm.Cond.code x code maxLocals ret :: tables_1
/-- a 'code' word, met by the world's own term for the bytes: nothing is compared byte by byte -/
theorem code_word {y : MethodName} {bytes : ByteArray} {mx : Nat} {rt : Option FieldType} {a : Array Value} {s : State} {m : MethodId} {meth : Method} {c : Code} (h1 : s.methodNamed? y = some m) (h2 : s.vm.method? m = some meth) (h3 : meth.code = some c) (h4 : c.code = bytes)
    (h5 : (c.maxLocals == mx && c.exceptionTable.isEmpty && decide (c.maxStack ≤ mostOperands) && decide (meth.sig.returnType = rt) && !meth.locks && decide (parseMethodDescriptor y.desc = some meth.sig)) = true) : (Jvm.Cond.code y bytes mx rt).before a s = true := by
  simp only [Bool.and_eq_true, beq_iff_eq, Bool.not_eq_true', decide_eq_true_eq] at h5
  obtain ⟨⟨⟨⟨⟨g1, g2⟩, g3⟩, g4⟩, g5⟩, g6⟩ := h5
  simp [Cond.before, Cond.holds, Cond.value, h1, h2, h3, h4, g1, g2, g3, g4, g5, g6]
def isCode : Jvm.Cond → Bool
  | .code _ _ _ _ => true
  | _ => false
theorem all_split {L : List Jvm.Cond} {P : Jvm.Cond → Bool} (h1 : L.all (fun c => isCode c || P c) = true) (h2 : ∀ c ∈ L.filter isCode, P c = true) : L.all P = true := by
  refine List.all_eq_true.mpr fun c hc => ?_
  have h := List.all_eq_true.mp h1 c hc
  rcases Bool.eq_false_or_eq_true (isCode c) with hi | hi
  · exact h2 c (List.mem_filter.mpr ⟨hc, hi⟩)
  · simpa [hi] using h
set_option maxRecDepth 65536 in
theorem w_c0 : (Jvm.Cond.code x code maxLocals ret).before args0 about1 = true := code_word (m := ⟨1, 1⟩) (meth := k1m1) (c := k1c1) (by decide +kernel) rfl rfl rfl (by decide +kernel)
set_option maxRecDepth 65536 in
theorem w_c1 : (Jvm.Cond.code ({ cls := "com/example/onetree/onetree/EdgeStates", name := "<init>", desc := "(I)V" } : Jvm.MethodName) prog_7_method_1_code (2 : Nat) (Option.none : Option Jvm.ClassFile.FieldType)).before args0 about1 = true := code_word (m := ⟨2, 0⟩) (meth := k2m0) (c := k2c0) (by decide +kernel) rfl rfl rfl (by decide +kernel)
set_option maxRecDepth 65536 in
theorem w_c2 : (Jvm.Cond.code ({ cls := "com/example/onetree/onetree/EdgeStates", name := "<init>", desc := "(ILcom/example/onetree/onetree/Instance;)V" } : Jvm.MethodName) prog_7_method_3_code (7 : Nat) (Option.none : Option Jvm.ClassFile.FieldType)).before args0 about1 = true := code_word (m := ⟨2, 1⟩) (meth := k2m1) (c := k2c1) (by decide +kernel) rfl rfl rfl (by decide +kernel)
set_option maxRecDepth 65536 in
theorem w_c3 : (Jvm.Cond.code ({ cls := "java/lang/Object", name := "<init>", desc := "()V" } : Jvm.MethodName) object_method_1_code (1 : Nat) (Option.none : Option Jvm.ClassFile.FieldType)).before args0 about1 = true := code_word (m := ⟨0, 0⟩) (meth := k0m0) (c := k0c0) (by decide +kernel) rfl rfl rfl (by decide +kernel)
set_option maxRecDepth 65536 in
theorem w_c4 : (Jvm.Cond.code ({ cls := "java/util/Arrays", name := "fill", desc := "([II)V" } : Jvm.MethodName) jdk_65_method_103_code (4 : Nat) (Option.none : Option Jvm.ClassFile.FieldType)).before args0 about1 = true := code_word (m := ⟨3, 1⟩) (meth := k3m1) (c := k3c1) (by decide +kernel) rfl rfl rfl (by decide +kernel)
set_option maxRecDepth 65536 in
theorem w_c5 : (Jvm.Cond.code ({ cls := "java/lang/Math", name := "toIntExact", desc := "(J)I" } : Jvm.MethodName) jdk_29_method_43_code (2 : Nat) (Option.some Jvm.ClassFile.FieldType.int)).before args0 about1 = true := code_word (m := ⟨4, 1⟩) (meth := k4m1) (c := k4c1) (by decide +kernel) rfl rfl rfl (by decide +kernel)
set_option maxRecDepth 65536 in
theorem w_c6 : (Jvm.Cond.code ({ cls := "com/example/onetree/onetree/EdgeStatesListNeighboursPinLaw", name := "apply", desc := "(Lcom/example/onetree/onetree/EdgeStates;III)V" } : Jvm.MethodName) method_3_code (6 : Nat) (Option.none : Option Jvm.ClassFile.FieldType)).before args0 about1 = true := code_word (m := ⟨1, 2⟩) (meth := k1m2) (c := k1c2) (by decide +kernel) rfl rfl rfl (by decide +kernel)
set_option maxRecDepth 65536 in
theorem w_c7 : (Jvm.Cond.code ({ cls := "com/example/onetree/onetree/EdgeStates", name := "mark", desc := "()I" } : Jvm.MethodName) prog_7_method_18_code (1 : Nat) (Option.some Jvm.ClassFile.FieldType.int)).before args0 about1 = true := code_word (m := ⟨2, 9⟩) (meth := k2m9) (c := k2c9) (by decide +kernel) rfl rfl rfl (by decide +kernel)
set_option maxRecDepth 65536 in
theorem w_c8 : (Jvm.Cond.code ({ cls := "com/example/onetree/onetree/EdgeStates", name := "listNeighbours", desc := "()V" } : Jvm.MethodName) prog_7_method_14_code (5 : Nat) (Option.none : Option Jvm.ClassFile.FieldType)).before args0 about1 = true := code_word (m := ⟨2, 5⟩) (meth := k2m5) (c := k2c5) (by decide +kernel) rfl rfl rfl (by decide +kernel)
set_option maxRecDepth 65536 in
theorem w_c9 : (Jvm.Cond.code ({ cls := "com/example/onetree/onetree/EdgeStates", name := "firstNeighbour", desc := "(I)I" } : Jvm.MethodName) prog_7_method_15_code (2 : Nat) (Option.some Jvm.ClassFile.FieldType.int)).before args0 about1 = true := code_word (m := ⟨2, 6⟩) (meth := k2m6) (c := k2c6) (by decide +kernel) rfl rfl rfl (by decide +kernel)
set_option maxRecDepth 65536 in
theorem w_c10 : (Jvm.Cond.code ({ cls := "com/example/onetree/onetree/EdgeStates", name := "endOfNeighbours", desc := "(I)I" } : Jvm.MethodName) prog_7_method_16_code (2 : Nat) (Option.some Jvm.ClassFile.FieldType.int)).before args0 about1 = true := code_word (m := ⟨2, 7⟩) (meth := k2m7) (c := k2c7) (by decide +kernel) rfl rfl rfl (by decide +kernel)
set_option maxRecDepth 65536 in
theorem w_c11 : (Jvm.Cond.code ({ cls := "com/example/onetree/onetree/EdgeStatesListNeighboursPinLaw", name := "city", desc := "(Lcom/example/onetree/onetree/EdgeStates;I)Z" } : Jvm.MethodName) method_5_code (5 : Nat) (Option.some Jvm.ClassFile.FieldType.boolean)).before args0 about1 = true := code_word (m := ⟨1, 4⟩) (meth := k1m4) (c := k1c4) (by decide +kernel) rfl rfl rfl (by decide +kernel)
set_option maxRecDepth 65536 in
theorem w_c12 : (Jvm.Cond.code ({ cls := "com/example/onetree/onetree/EdgeStatesListNeighboursPinLaw", name := "add", desc := "([IILcom/example/onetree/onetree/EdgeStates;II)I" } : Jvm.MethodName) method_4_code (5 : Nat) (Option.some Jvm.ClassFile.FieldType.int)).before args0 about1 = true := code_word (m := ⟨1, 3⟩) (meth := k1m3) (c := k1c3) (by decide +kernel) rfl rfl rfl (by decide +kernel)
set_option maxRecDepth 65536 in
theorem w_c13 : (Jvm.Cond.code ({ cls := "com/example/onetree/onetree/EdgeStates", name := "state", desc := "(II)B" } : Jvm.MethodName) prog_7_method_4_code (3 : Nat) (Option.some Jvm.ClassFile.FieldType.byte)).before args0 about1 = true := code_word (m := ⟨2, 2⟩) (meth := k2m2) (c := k2c2) (by decide +kernel) rfl rfl rfl (by decide +kernel)
set_option maxRecDepth 65536 in
theorem w_c14 : (Jvm.Cond.code ({ cls := "com/example/onetree/onetree/EdgeStates", name := "neighbour", desc := "(I)I" } : Jvm.MethodName) prog_7_method_17_code (2 : Nat) (Option.some Jvm.ClassFile.FieldType.int)).before args0 about1 = true := code_word (m := ⟨2, 8⟩) (meth := k2m8) (c := k2c8) (by decide +kernel) rfl rfl rfl (by decide +kernel)
set_option maxRecDepth 65536 in
theorem w_c15 : (Jvm.Cond.code ({ cls := "com/example/onetree/onetree/EdgeStates", name := "remove", desc := "(II)Z" } : Jvm.MethodName) prog_7_method_13_code (3 : Nat) (Option.some Jvm.ClassFile.FieldType.boolean)).before args0 about1 = true := code_word (m := ⟨2, 4⟩) (meth := k2m4) (c := k2c4) (by decide +kernel) rfl rfl rfl (by decide +kernel)
set_option maxRecDepth 65536 in
theorem w_c16 : (Jvm.Cond.code ({ cls := "com/example/onetree/onetree/EdgeStates", name := "setRemoved", desc := "(II)Z" } : Jvm.MethodName) prog_7_method_21_code (4 : Nat) (Option.some Jvm.ClassFile.FieldType.boolean)).before args0 about1 = true := code_word (m := ⟨2, 12⟩) (meth := k2m12) (c := k2c12) (by decide +kernel) rfl rfl rfl (by decide +kernel)
set_option maxRecDepth 65536 in
theorem w_c17 : (Jvm.Cond.code ({ cls := "com/example/onetree/onetree/EdgeStates", name := "setState", desc := "(IIB)V" } : Jvm.MethodName) prog_7_method_25_code (4 : Nat) (Option.none : Option Jvm.ClassFile.FieldType)).before args0 about1 = true := code_word (m := ⟨2, 16⟩) (meth := k2m16) (c := k2c16) (by decide +kernel) rfl rfl rfl (by decide +kernel)
set_option maxRecDepth 65536 in
theorem w_c18 : (Jvm.Cond.code ({ cls := "com/example/onetree/onetree/EdgeStates", name := "enqueue", desc := "(I)V" } : Jvm.MethodName) prog_7_method_27_code (2 : Nat) (Option.none : Option Jvm.ClassFile.FieldType)).before args0 about1 = true := code_word (m := ⟨2, 18⟩) (meth := k2m18) (c := k2c18) (by decide +kernel) rfl rfl rfl (by decide +kernel)
set_option maxRecDepth 65536 in
theorem w_c19 : (Jvm.Cond.code ({ cls := "com/example/onetree/onetree/EdgeStates", name := "propagate", desc := "()Z" } : Jvm.MethodName) prog_7_method_22_code (2 : Nat) (Option.some Jvm.ClassFile.FieldType.boolean)).before args0 about1 = true := code_word (m := ⟨2, 13⟩) (meth := k2m13) (c := k2c13) (by decide +kernel) rfl rfl rfl (by decide +kernel)
set_option maxRecDepth 65536 in
theorem w_c20 : (Jvm.Cond.code ({ cls := "com/example/onetree/onetree/EdgeStates", name := "applyDegreeRules", desc := "(I)Z" } : Jvm.MethodName) prog_7_method_24_code (5 : Nat) (Option.some Jvm.ClassFile.FieldType.boolean)).before args0 about1 = true := code_word (m := ⟨2, 15⟩) (meth := k2m15) (c := k2c15) (by decide +kernel) rfl rfl rfl (by decide +kernel)
set_option maxRecDepth 65536 in
theorem w_c21 : (Jvm.Cond.code ({ cls := "com/example/onetree/onetree/EdgeStates", name := "setForced", desc := "(II)Z" } : Jvm.MethodName) prog_7_method_20_code (7 : Nat) (Option.some Jvm.ClassFile.FieldType.boolean)).before args0 about1 = true := code_word (m := ⟨2, 11⟩) (meth := k2m11) (c := k2c11) (by decide +kernel) rfl rfl rfl (by decide +kernel)
set_option maxRecDepth 65536 in
theorem w_c22 : (Jvm.Cond.code ({ cls := "com/example/onetree/onetree/EdgeStates", name := "setPathEnd", desc := "(III)V" } : Jvm.MethodName) prog_7_method_26_code (4 : Nat) (Option.none : Option Jvm.ClassFile.FieldType)).before args0 about1 = true := code_word (m := ⟨2, 17⟩) (meth := k2m17) (c := k2c17) (by decide +kernel) rfl rfl rfl (by decide +kernel)
set_option maxRecDepth 65536 in
theorem w_c23 : (Jvm.Cond.code ({ cls := "com/example/onetree/onetree/EdgeStates", name := "force", desc := "(II)Z" } : Jvm.MethodName) prog_7_method_12_code (3 : Nat) (Option.some Jvm.ClassFile.FieldType.boolean)).before args0 about1 = true := code_word (m := ⟨2, 3⟩) (meth := k2m3) (c := k2c3) (by decide +kernel) rfl rfl rfl (by decide +kernel)
set_option maxRecDepth 65536 in
theorem w_c24 : (Jvm.Cond.code ({ cls := "com/example/onetree/onetree/EdgeStates", name := "undo", desc := "(I)V" } : Jvm.MethodName) prog_7_method_19_code (5 : Nat) (Option.none : Option Jvm.ClassFile.FieldType)).before args0 about1 = true := code_word (m := ⟨2, 10⟩) (meth := k2m10) (c := k2c10) (by decide +kernel) rfl rfl rfl (by decide +kernel)
set_option maxRecDepth 65536 in
theorem w_c25 : (Jvm.Cond.code ({ cls := "com/example/onetree/onetree/EdgeStates", name := "clearPending", desc := "()V" } : Jvm.MethodName) prog_7_method_23_code (1 : Nat) (Option.none : Option Jvm.ClassFile.FieldType)).before args0 about1 = true := code_word (m := ⟨2, 14⟩) (meth := k2m14) (c := k2c14) (by decide +kernel) rfl rfl rfl (by decide +kernel)
def codes1 : List Jvm.Cond := [Jvm.Cond.code x code maxLocals ret, Jvm.Cond.code ({ cls := "com/example/onetree/onetree/EdgeStates", name := "<init>", desc := "(I)V" } : Jvm.MethodName) prog_7_method_1_code (2 : Nat) (Option.none : Option Jvm.ClassFile.FieldType), Jvm.Cond.code ({ cls := "com/example/onetree/onetree/EdgeStates", name := "<init>", desc := "(ILcom/example/onetree/onetree/Instance;)V" } : Jvm.MethodName) prog_7_method_3_code (7 : Nat) (Option.none : Option Jvm.ClassFile.FieldType), Jvm.Cond.code ({ cls := "java/lang/Object", name := "<init>", desc := "()V" } : Jvm.MethodName) object_method_1_code (1 : Nat) (Option.none : Option Jvm.ClassFile.FieldType), Jvm.Cond.code ({ cls := "java/util/Arrays", name := "fill", desc := "([II)V" } : Jvm.MethodName) jdk_65_method_103_code (4 : Nat) (Option.none : Option Jvm.ClassFile.FieldType), Jvm.Cond.code ({ cls := "java/lang/Math", name := "toIntExact", desc := "(J)I" } : Jvm.MethodName) jdk_29_method_43_code (2 : Nat) (Option.some Jvm.ClassFile.FieldType.int), Jvm.Cond.code ({ cls := "com/example/onetree/onetree/EdgeStatesListNeighboursPinLaw", name := "apply", desc := "(Lcom/example/onetree/onetree/EdgeStates;III)V" } : Jvm.MethodName) method_3_code (6 : Nat) (Option.none : Option Jvm.ClassFile.FieldType), Jvm.Cond.code ({ cls := "com/example/onetree/onetree/EdgeStates", name := "mark", desc := "()I" } : Jvm.MethodName) prog_7_method_18_code (1 : Nat) (Option.some Jvm.ClassFile.FieldType.int), Jvm.Cond.code ({ cls := "com/example/onetree/onetree/EdgeStates", name := "listNeighbours", desc := "()V" } : Jvm.MethodName) prog_7_method_14_code (5 : Nat) (Option.none : Option Jvm.ClassFile.FieldType), Jvm.Cond.code ({ cls := "com/example/onetree/onetree/EdgeStates", name := "firstNeighbour", desc := "(I)I" } : Jvm.MethodName) prog_7_method_15_code (2 : Nat) (Option.some Jvm.ClassFile.FieldType.int), Jvm.Cond.code ({ cls := "com/example/onetree/onetree/EdgeStates", name := "endOfNeighbours", desc := "(I)I" } : Jvm.MethodName) prog_7_method_16_code (2 : Nat) (Option.some Jvm.ClassFile.FieldType.int), Jvm.Cond.code ({ cls := "com/example/onetree/onetree/EdgeStatesListNeighboursPinLaw", name := "city", desc := "(Lcom/example/onetree/onetree/EdgeStates;I)Z" } : Jvm.MethodName) method_5_code (5 : Nat) (Option.some Jvm.ClassFile.FieldType.boolean), Jvm.Cond.code ({ cls := "com/example/onetree/onetree/EdgeStatesListNeighboursPinLaw", name := "add", desc := "([IILcom/example/onetree/onetree/EdgeStates;II)I" } : Jvm.MethodName) method_4_code (5 : Nat) (Option.some Jvm.ClassFile.FieldType.int), Jvm.Cond.code ({ cls := "com/example/onetree/onetree/EdgeStates", name := "state", desc := "(II)B" } : Jvm.MethodName) prog_7_method_4_code (3 : Nat) (Option.some Jvm.ClassFile.FieldType.byte), Jvm.Cond.code ({ cls := "com/example/onetree/onetree/EdgeStates", name := "neighbour", desc := "(I)I" } : Jvm.MethodName) prog_7_method_17_code (2 : Nat) (Option.some Jvm.ClassFile.FieldType.int), Jvm.Cond.code ({ cls := "com/example/onetree/onetree/EdgeStates", name := "remove", desc := "(II)Z" } : Jvm.MethodName) prog_7_method_13_code (3 : Nat) (Option.some Jvm.ClassFile.FieldType.boolean), Jvm.Cond.code ({ cls := "com/example/onetree/onetree/EdgeStates", name := "setRemoved", desc := "(II)Z" } : Jvm.MethodName) prog_7_method_21_code (4 : Nat) (Option.some Jvm.ClassFile.FieldType.boolean), Jvm.Cond.code ({ cls := "com/example/onetree/onetree/EdgeStates", name := "setState", desc := "(IIB)V" } : Jvm.MethodName) prog_7_method_25_code (4 : Nat) (Option.none : Option Jvm.ClassFile.FieldType), Jvm.Cond.code ({ cls := "com/example/onetree/onetree/EdgeStates", name := "enqueue", desc := "(I)V" } : Jvm.MethodName) prog_7_method_27_code (2 : Nat) (Option.none : Option Jvm.ClassFile.FieldType), Jvm.Cond.code ({ cls := "com/example/onetree/onetree/EdgeStates", name := "propagate", desc := "()Z" } : Jvm.MethodName) prog_7_method_22_code (2 : Nat) (Option.some Jvm.ClassFile.FieldType.boolean), Jvm.Cond.code ({ cls := "com/example/onetree/onetree/EdgeStates", name := "applyDegreeRules", desc := "(I)Z" } : Jvm.MethodName) prog_7_method_24_code (5 : Nat) (Option.some Jvm.ClassFile.FieldType.boolean), Jvm.Cond.code ({ cls := "com/example/onetree/onetree/EdgeStates", name := "setForced", desc := "(II)Z" } : Jvm.MethodName) prog_7_method_20_code (7 : Nat) (Option.some Jvm.ClassFile.FieldType.boolean), Jvm.Cond.code ({ cls := "com/example/onetree/onetree/EdgeStates", name := "setPathEnd", desc := "(III)V" } : Jvm.MethodName) prog_7_method_26_code (4 : Nat) (Option.none : Option Jvm.ClassFile.FieldType), Jvm.Cond.code ({ cls := "com/example/onetree/onetree/EdgeStates", name := "force", desc := "(II)Z" } : Jvm.MethodName) prog_7_method_12_code (3 : Nat) (Option.some Jvm.ClassFile.FieldType.boolean), Jvm.Cond.code ({ cls := "com/example/onetree/onetree/EdgeStates", name := "undo", desc := "(I)V" } : Jvm.MethodName) prog_7_method_19_code (5 : Nat) (Option.none : Option Jvm.ClassFile.FieldType), Jvm.Cond.code ({ cls := "com/example/onetree/onetree/EdgeStates", name := "clearPending", desc := "()V" } : Jvm.MethodName) prog_7_method_23_code (1 : Nat) (Option.none : Option Jvm.ClassFile.FieldType)]
set_option maxRecDepth 65536 in
theorem codes_eq : words1.filter isCode = codes1 := rfl
theorem w_codes : ∀ c ∈ words1.filter isCode, c.before args0 about1 = true := by
  rw [codes_eq]
  intro c hc
  simp only [codes1, List.mem_cons, List.not_mem_nil, or_false] at hc
  rcases hc with rfl | rfl | rfl | rfl | rfl | rfl | rfl | rfl | rfl | rfl | rfl | rfl | rfl | rfl | rfl | rfl | rfl | rfl | rfl | rfl | rfl | rfl | rfl | rfl | rfl | rfl
  · exact w_c0
  · exact w_c1
  · exact w_c2
  · exact w_c3
  · exact w_c4
  · exact w_c5
  · exact w_c6
  · exact w_c7
  · exact w_c8
  · exact w_c9
  · exact w_c10
  · exact w_c11
  · exact w_c12
  · exact w_c13
  · exact w_c14
  · exact w_c15
  · exact w_c16
  · exact w_c17
  · exact w_c18
  · exact w_c19
  · exact w_c20
  · exact w_c21
  · exact w_c22
  · exact w_c23
  · exact w_c24
  · exact w_c25
set_option maxRecDepth 65536 in
theorem w_t1 : (words1.take 24).all (fun c => isCode c || c.before args0 about1) = true := by decide +kernel
set_option maxRecDepth 65536 in
theorem w_t2 : ((words1.drop 24).take 24).all (fun c => isCode c || c.before args0 about1) = true := by decide +kernel
set_option maxRecDepth 65536 in
theorem w_t3 : (((words1.drop 24).drop 24).take 24).all (fun c => isCode c || c.before args0 about1) = true := by decide +kernel
set_option maxRecDepth 65536 in
theorem w_t4 : ((((words1.drop 24).drop 24).drop 24).take 24).all (fun c => isCode c || c.before args0 about1) = true := by decide +kernel
set_option maxRecDepth 65536 in
theorem w_t5 : (((((words1.drop 24).drop 24).drop 24).drop 24).take 24).all (fun c => isCode c || c.before args0 about1) = true := by decide +kernel
set_option maxRecDepth 65536 in
theorem w_t6 : ((((((words1.drop 24).drop 24).drop 24).drop 24).drop 24).take 24).all (fun c => isCode c || c.before args0 about1) = true := by decide +kernel
set_option maxRecDepth 65536 in
theorem w_t7 : ((((((words1.drop 24).drop 24).drop 24).drop 24).drop 24).drop 24).all (fun c => isCode c || c.before args0 about1) = true := by decide +kernel
theorem w_tables : (allAtoms (Jvm.Cond.code x code maxLocals ret :: tables_1)).before args0 about1 = true := by
  rw [allAtoms_all]
  show words1.all (fun c => c.before args0 about1) = true
  refine all_split ?_ w_codes
  rw [← List.take_append_drop 24 words1, List.all_append, w_t1, ← List.take_append_drop 24 (words1.drop 24), List.all_append, w_t2, ← List.take_append_drop 24 ((words1.drop 24).drop 24), List.all_append, w_t3, ← List.take_append_drop 24 (((words1.drop 24).drop 24).drop 24), List.all_append, w_t4, ← List.take_append_drop 24 ((((words1.drop 24).drop 24).drop 24).drop 24), List.all_append, w_t5, ← List.take_append_drop 24 (((((words1.drop 24).drop 24).drop 24).drop 24).drop 24), List.all_append, w_t6, w_t7]
  rfl
set_option maxRecDepth 65536 in
theorem w_case : (Jvm.Cond.and given_1 narrow_1).before args0 about1 = true := by decide +kernel
theorem w_applies : (headSpec (Jvm.Cond.code x code maxLocals ret :: tables_1) room_1).applies x e0.platform about1 = true :=
  (Spec.applies_iff w_frames).mpr ⟨w_running, w_runnable, w_alone, w_named, w_hears, w_ripe, w_room, w_tables⟩
theorem atStart : AtStart classFile x code maxLocals ret World_1 tables_1 room_1 Calls_1 rest_1 Pre_1 launch0 p0 e0 about1 theMethod args0 below0 :=
  ⟨lists_1, trivial, launch0.admits_env _ _ _, launch0.least_env, fairChoices_fair.cas, fairChoices_fair.clock, w_frames, w_args, w_heap, w_applies, trivial, trivial, w_case⟩
end start1
theorem witness_1 : WitnessClaimed_1 := ⟨start1.p0, start1.e0, start1.about1, start1.theMethod, start1.args0, start1.below0, start1.atStart⟩
end Jvm.Pilot.@@N@@
